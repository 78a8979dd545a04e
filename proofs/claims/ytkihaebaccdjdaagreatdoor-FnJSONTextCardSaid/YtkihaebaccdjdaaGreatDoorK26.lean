import Derived.Test.YtkihaebaccdjdaaGreatDoorK16
import Derived.Deep.RegionHeld3
set_option linter.unusedVariables false
set_option linter.unusedSimpArgs false
namespace Go.Proofs.YtkihaebaccdjdaaGreatDoor
open Go.RowKit Go.Proofs.YtkihaebaccdjdaaGreatDoorW.PrintWords Go.Proofs.YtkihaebaccdjdaaGreatDoorW.PrintLast Go.Proofs.YtkihaebaccdjdaaGreatDoorW.PrintMore
namespace H
/-! ### Object.Key, the first one -/
theorem undrew {w w' : World} (h : Below w.drew.heap.size w.drew w') : Below w.heap.size w w' := ⟨h.os, h.tape, h.output, h.size, h.block⟩
set_option maxHeartbeats 4000000 in
set_option maxRecDepth 100000 in
theorem jkey {dec : List Int → Int × Nat} {D : World → Prop} {B b ob sc : Nat} {X : Nat → Prop} {xs : List Int} (HD : DD dec D B) (s : ByteArray) (w : World) (h : JB 150 B (fun k => X k ∨ k = ob) b xs w) (hXo : ¬ X ob) (hBo : B ≤ ob)
    (ho : w.heap[ob]? = some (.cells #[.pointer (some ⟨b, 0, none⟩), .bool false, .pointer (some ⟨sc, 0, none⟩)] 200 (0, 0))) (hD : D w) (hs : s.size ≤ 2147483647) (hl : (xs ++ [34] ++ esc dec s.size (bytesOf s) ++ [34]).length + 1 ≤ 140737488355328) :
    Calls Tryz.prog 96 #[.pointer (some ⟨ob, 0, none⟩), .string s] w fun e w' => e = .returned (.agg #[.pointer (some ⟨b, 0, none⟩), .pointer (some ⟨sc, 0, none⟩)]) ∧ JB 150 B (fun k => X k ∨ k = ob) b (xs ++ [34] ++ esc dec s.size (bytesOf s) ++ [34] ++ [58]) w' ∧
      w'.heap[ob]? = some (.cells #[.pointer (some ⟨b, 0, none⟩), .bool true, .pointer (some ⟨sc, 0, none⟩)] 200 (0, 0)) ∧ Fr (fun k => B ≤ k ∧ ¬ X k) w w' ∧ D w' := by
  have hblt := h.lt
  replace h := Aside0.mk h
  replace hD := Aside0.mk hD
  replace hl := Aside0.mk hl
  have hlt := lt_of ho
  have b0 := cell_at ho 0; have b1 := cell_at ho 1; have b2 := cell_at ho 2
  have y0 := free_of ho 1
  simp at b0 b1 b2
  replace ho := Aside0.mk ho
  go_enter Tryz.func96, Tryz.ntmps96
  go_wp2_with fail
  have hFs : Fr (fun k => k = ob) w (w.setCell ⟨ob, 1, none⟩ (.bool true)) := (Fr.refl (fun k => k = ob) w).setCell (p := ⟨ob, 1, none⟩) (.inl rfl) _
  have ho1 := heap_set ho.out 1 (.bool true)
  simp only [List.setIfInBounds_toArray, List.set_cons_zero, List.set_cons_succ] at ho1
  have hsz : (w.setCell ⟨ob, 1, none⟩ (.bool true)).heap.size = w.heap.size := by simp [World.setCell]
  have hJ1 := h.out.frX hFs (fun k e => .inr e)
  generalize w.setCell ⟨ob, 1, none⟩ (.bool true) = w1 at *
  have hu := heap_new w1 (.cells #[.pointer none, .pointer none] 88)
  have hb1 := below_alloc (Below.refl w1.heap.size w1) (.cells #[.pointer none, .pointer none] 88)
  have hsz2 : (w1.alloc (.cells #[.pointer none, .pointer none] 88)).heap.size = w1.heap.size + 1 := by simp
  have ho2 := heap_below hb1 ho1
  generalize w1.alloc (.cells #[.pointer none, .pointer none] 88) = w2 at *
  rw [hsz] at hu
  obtain ⟨rb, hrb⟩ : ∃ rb, w.heap.size = rb := ⟨_, rfl⟩
  have hne : ob ≠ rb := by omega
  have hne2 : ¬ rb = ob := Ne.symm hne
  have hJ2 := hJ1.also hb1 (g := rb) (by omega) (by omega)
  rw [hrb] at hu
  have hu2 := hu
  have hFw : Fr (fun k => B ≤ k ∧ ¬ X k) w w2 := (hFs.mono (fun k _ e => by subst e; exact ⟨hBo, hXo⟩)).trans (Fr.of_below (S := fun _ => False) hb1) (fun _ _ h => h.elim)
  rw [hrb]
  replace hrb := Aside0.mk hrb; replace hu := Aside0.mk hu; replace hb1 := Aside0.mk hb1
  have hD2 := HD.keep _ _ _ hD.out hFw
  replace hFw := Aside0.mk hFw
  replace hu2 := Aside0.mk hu2
  refine (jwkey HD s w2 hJ2 (.inl (.inr rfl)) ho2 rfl hD2 hs hl.out).mono ?_
  rintro e w3 ⟨rfl, hw3, hD3⟩
  have ho3 := Aside0.mk (hw3.2.heap ho2 (fun e => e.2 (.inl (.inr rfl))))
  have hu3 := Aside0.mk (hw3.2.heap hu2.out (fun e => e.2 (.inr rfl)))
  have hF3 := Aside0.mk (hFw.out.trans hw3.2 (fun k _ e => ⟨e.1, fun hx => e.2 (.inl (.inl hx))⟩))
  have hJ3 := Aside0.mk hw3.1
  replace hD3 := Aside0.mk hD3
  clear hw3 hJ2 hJ1 hFs b0 b1 b2 y0 ho1 ho2 hD2 hsz hsz2
  have d0 := cell_at ho3.out 0; have d2 := cell_at ho3.out 2
  have z0 := cell_at hu3.out 0; have z1 := cell_at hu3.out 1
  have f0 := free_of hu3.out 0; have f1 := free_of hu3.out 1
  simp at d0 d2 z0 z1
  go_wp2_with fail
  go_region_held3 (fun w' => w'.cell? ⟨ob, 0, none⟩ = some (.pointer (some ⟨b, 0, none⟩)) ∧ w'.cell? ⟨ob, 2, none⟩ = some (.pointer (some ⟨sc, 0, none⟩))) (simp [*, World.cell?_setCell_far]) (first | ((go_at_call 86; refine (jnewV b sc _).mono ?_; rintro e w5 ⟨rfl, hb5⟩; replace hb5 := undrew hb5; have ho5 := heap_below hb5 ho3.out; have hu5 := heap_below hb5 hu3.out; have e0 := cell_at ho5 0; have e2 := cell_at ho5 2; have v0 := cell_at hu5 0; have v1 := cell_at hu5 1; have g0 := free_of hu5 0; have g1 := free_of hu5 1; simp at e0 e2 v0 v1; replace ho5 := Aside0.mk ho5; replace hu5 := Aside0.mk hu5; replace hb5 := Aside0.mk hb5)))
  have hFe : Fr (fun k => k = rb) w5 ((w5.setCell ⟨rb, 0, none⟩ (.pointer (some ⟨b, 0, none⟩))).setCell ⟨rb, 1, none⟩ (.pointer (some ⟨sc, 0, none⟩))) := ((Fr.refl (fun k => k = rb) w5).setCell (p := ⟨rb, 0, none⟩) (.inl rfl) _).setCell (p := ⟨rb, 1, none⟩) (.inl rfl) _
  have hJ5 := (hJ3.out.calm hb5.out).frX hFe (fun k e => .inr e)
  have ho6 := hFe.heap ho5.out hne
  have hF6 := (hF3.out.trans (Fr.of_below (S := fun _ => False) hb5.out) (fun _ _ h => h.elim)).trans hFe (fun k hk e => by have := hrb.out; omega)
  have hD6 := HD.keep _ _ _ hD.out hF6
  replace hJ5 := Aside0.mk hJ5; replace ho6 := Aside0.mk ho6; replace hF6 := Aside0.mk hF6; replace hD6 := Aside0.mk hD6
  clear hFe
  go_wp2
  (try simp only [Exit.inBlock, Exit.then])
  refine bodyPost_ret (v := .agg #[.pointer (some ⟨b, 0, none⟩), .pointer (some ⟨sc, 0, none⟩)]) ?_ rfl ⟨rfl, hJ5.out.less (fun k hk => .inl hk), ho6.out, hF6.out, hD6.out⟩
  simp only [results]; go_simp
end H
end Go.Proofs.YtkihaebaccdjdaaGreatDoor
set_option linter.unusedVariables false
set_option linter.unusedSimpArgs false
namespace Go.Proofs.YtkihaebaccdjdaaGreatDoor
open Go.RowKit Go.Proofs.YtkihaebaccdjdaaGreatDoorW.PrintWords Go.Proofs.YtkihaebaccdjdaaGreatDoorW.PrintLast Go.Proofs.YtkihaebaccdjdaaGreatDoorW.PrintMore
namespace H
/-! ### impl.inJSON, impl.EncodeJSON: a text -/
/-- A node by its fields. -/
def ND (kind : Int) (text : ByteArray) (num : Int) (names kids flat : Value) (item kn vn : ByteArray) (attrs : Value) : Value := .agg #[.int .i64 kind, .string text, .int .i64 num, names, kids, flat, .string item, .string kn, .string vn, attrs]
def NDc (kind : Int) (text : ByteArray) (num : Int) (names kids flat : Value) (item kn vn : ByteArray) (attrs : Value) : Array Value := #[.int .i64 kind, .string text, .int .i64 num, names, kids, flat, .string item, .string kn, .string vn, attrs]
set_option maxHeartbeats 2000000 in
set_option maxRecDepth 100000 in
theorem jin0 {dec : List Int → Int × Nat} {D : World → Prop} {B b sc : Nat} {X : Nat → Prop} {xs : List Int} (HD : DD dec D B) (s : ByteArray) (num : Int) (item kn vn : ByteArray) (a1 a2 a3 a4 : Option Addr) (n1 n2 n3 n4 c1 c2 c3 c4 : Nat) (w : World) (h : JB 150 B X b xs w) (hD : D w) (hs : s.size ≤ 2147483647) (hl : (xs ++ [34] ++ esc dec s.size (bytesOf s) ++ [34]).length ≤ 140737488355328) :
    Calls Tryz.prog 39 #[.agg #[.pointer (some ⟨b, 0, none⟩), .pointer (some ⟨sc, 0, none⟩)], ND 0 s num (.slice a1 n1 c1) (.slice a2 n2 c2) (.slice a3 n3 c3) item kn vn (.slice a4 n4 c4)] w fun e w' => e = .returned (.tuple #[]) ∧ Wrote 150 B X b (xs ++ [34] ++ esc dec s.size (bytesOf s) ++ [34]) w w' ∧ D w' := by
  replace h := Aside0.mk h
  replace hD := Aside0.mk hD
  unfold ND
  go_enter Tryz.func39, Tryz.ntmps39
  go_wp2_with fail
  have hb := below_alloc (below_alloc (Below.refl w.heap.size w) (.cells #[.pointer (some ⟨b, 0, none⟩), .pointer (some ⟨sc, 0, none⟩)] 88)) (.cells (NDc 0 s num (.slice a1 n1 c1) (.slice a2 n2 c2) (.slice a3 n3 c3) item kn vn (.slice a4 n4 c4)) 28)
  unfold NDc at hb
  generalize (w.alloc (.cells #[.pointer (some ⟨b, 0, none⟩), .pointer (some ⟨sc, 0, none⟩)] 88)).alloc (.cells #[.int .i64 0, .string s, .int .i64 num, .slice a1 n1 c1, .slice a2 n2 c2, .slice a3 n3 c3, .string item, .string kn, .string vn, .slice a4 n4 c4] 28) = w1 at *
  refine (jstring HD s w1 (h.out.calm hb) (HD.keep (fun _ => False) _ _ hD.out (Fr.of_below hb)) hs hl).mono ?_
  rintro e w2 ⟨rfl, hw, hD2⟩
  go_wp2
  refine bodyPost_end (results_none rfl _ _ _) rfl ?_
  exact ⟨rfl, ⟨hw.1, (Fr.of_below (S := fun k => B ≤ k ∧ ¬ X k) hb).trans hw.2 (fun _ _ h => h)⟩, hD2⟩
end H
end Go.Proofs.YtkihaebaccdjdaaGreatDoor
