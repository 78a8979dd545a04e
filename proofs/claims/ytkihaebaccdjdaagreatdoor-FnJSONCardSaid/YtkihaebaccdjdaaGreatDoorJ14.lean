import Derived.Test.YtkihaebaccdjdaaGreatDoorJ8
import Derived.Deep.RegionHeld3
set_option linter.unusedVariables false
set_option linter.unusedSimpArgs false
namespace Go.Proofs.YtkihaebaccdjdaaGreatDoor
open Go.RowKit Go.Proofs.YtkihaebaccdjdaaGreatDoorW.PrintWords Go.Proofs.YtkihaebaccdjdaaGreatDoorW.PrintLast Go.Proofs.YtkihaebaccdjdaaGreatDoorW.PrintMore
namespace H
/-! ### Object.Key, the first one -/
theorem undrew {w w' : World} (h : Below w.drew.heap.size w.drew w') : Below w.heap.size w w' := ⟨h.os, h.tape, h.output, h.size, h.block⟩
set_option maxHeartbeats 4000000 in
set_option maxRecDepth 100000 in
theorem jkey {dec : List Int → Int × Nat} {D : World → Prop} {B b ob sc : Nat} {X : Nat → Prop} {xs : List Int} (HD : DD dec D B) (s : ByteArray) (w : World) (h : JB 150 B (fun k => X k ∨ k = ob) b xs w) (hXo : ¬ X ob) (hBo : B ≤ ob)
 (ho : w.heap[ob]? = some (.cells #[.pointer (some ⟨b, 0, none⟩), .bool false, .pointer (some ⟨sc, 0, none⟩)] 200 (0, 0))) (hD : D w) (hs : s.size ≤ 2147483647) (hl : (xs ++ [34] ++ esc dec s.size (bytesOf s) ++ [34]).length + 1 ≤ 140737488355328) :
 Calls Tryz.prog 96 #[.pointer (some ⟨ob, 0, none⟩), .string s] w fun e w' => e = .returned (.agg #[.pointer (some ⟨b, 0, none⟩), .pointer (some ⟨sc, 0, none⟩)]) ∧ JB 150 B (fun k => X k ∨ k = ob) b (xs ++ [34] ++ esc dec s.size (bytesOf s) ++ [34] ++ [58]) w' ∧
  w'.heap[ob]? = some (.cells #[.pointer (some ⟨b, 0, none⟩), .bool true, .pointer (some ⟨sc, 0, none⟩)] 200 (0, 0)) ∧ Fr (fun k => B ≤ k ∧ ¬ X k) w w' ∧ D w' := by
 have hblt := h.lt
 replace h := Aside0.mk h
 replace hD := Aside0.mk hD
 replace hl := Aside0.mk hl
 have hlt := lt_of ho
 have b0 := cell_at ho 0; have b1 := cell_at ho 1; have b2 := cell_at ho 2
 have y0 := free_of ho 1
 simp at b0 b1 b2
 replace ho := Aside0.mk ho
 go_enter Tryz.func96, Tryz.ntmps96
 go_wp2_with fail
 have hFs : Fr (fun k => k = ob) w (w.setCell ⟨ob, 1, none⟩ (.bool true)) := (Fr.refl (fun k => k = ob) w).setCell (p := ⟨ob, 1, none⟩) (.inl rfl) _
 have ho1 := heap_set ho.out 1 (.bool true)
 simp only [List.setIfInBounds_toArray, List.set_cons_zero, List.set_cons_succ] at ho1
 have hsz : (w.setCell ⟨ob, 1, none⟩ (.bool true)).heap.size = w.heap.size := by simp [World.setCell]
 have hJ1 := h.out.frX hFs (fun k e => .inr e)
 generalize w.setCell ⟨ob, 1, none⟩ (.bool true) = w1 at *
 have hu := heap_new w1 (.cells #[.pointer none, .pointer none] 88)
 have hb1 := below_alloc (Below.refl w1.heap.size w1) (.cells #[.pointer none, .pointer none] 88)
 have hsz2 : (w1.alloc (.cells #[.pointer none, .pointer none] 88)).heap.size = w1.heap.size + 1 := by simp
 have ho2 := heap_below hb1 ho1
 generalize w1.alloc (.cells #[.pointer none, .pointer none] 88) = w2 at *
 rw [hsz] at hu
 obtain ⟨rb, hrb⟩ : ∃ rb, w.heap.size = rb := ⟨_, rfl⟩
 have hne : ob ≠ rb := by omega
 have hne2 : ¬ rb = ob := Ne.symm hne
 have hJ2 := hJ1.also hb1 (g := rb) (by omega) (by omega)
 rw [hrb] at hu
 have hu2 := hu
 have hFw : Fr (fun k => B ≤ k ∧ ¬ X k) w w2 := (hFs.mono (fun k _ e => by subst e; exact ⟨hBo, hXo⟩)).trans (Fr.of_below (S := fun _ => False) hb1) (fun _ _ h => h.elim)
 rw [hrb]
 replace hrb := Aside0.mk hrb; replace hu := Aside0.mk hu; replace hb1 := Aside0.mk hb1
 have hD2 := HD.keep _ _ _ hD.out hFw
 replace hFw := Aside0.mk hFw
 replace hu2 := Aside0.mk hu2
 refine (jwkey HD s w2 hJ2 (.inl (.inr rfl)) ho2 rfl hD2 hs hl.out).mono ?_
 rintro e w3 ⟨rfl, hw3, hD3⟩
 have ho3 := Aside0.mk (hw3.2.heap ho2 (fun e => e.2 (.inl (.inr rfl))))
 have hu3 := Aside0.mk (hw3.2.heap hu2.out (fun e => e.2 (.inr rfl)))
 have hF3 := Aside0.mk (hFw.out.trans hw3.2 (fun k _ e => ⟨e.1, fun hx => e.2 (.inl (.inl hx))⟩))
 have hJ3 := Aside0.mk hw3.1
 replace hD3 := Aside0.mk hD3
 clear hw3 hJ2 hJ1 hFs b0 b1 b2 y0 ho1 ho2 hD2 hsz hsz2
 have d0 := cell_at ho3.out 0; have d2 := cell_at ho3.out 2
 have z0 := cell_at hu3.out 0; have z1 := cell_at hu3.out 1
 have f0 := free_of hu3.out 0; have f1 := free_of hu3.out 1
 simp at d0 d2 z0 z1
 go_wp2_with fail
 go_region_held3 (fun w' => w'.cell? ⟨ob, 0, none⟩ = some (.pointer (some ⟨b, 0, none⟩)) ∧ w'.cell? ⟨ob, 2, none⟩ = some (.pointer (some ⟨sc, 0, none⟩))) (simp [*, World.cell?_setCell_far]) (first | ((go_at_call 86; refine (jnewV b sc _).mono ?_; rintro e w5 ⟨rfl, hb5⟩; replace hb5 := undrew hb5; have ho5 := heap_below hb5 ho3.out; have hu5 := heap_below hb5 hu3.out; have e0 := cell_at ho5 0; have e2 := cell_at ho5 2; have v0 := cell_at hu5 0; have v1 := cell_at hu5 1; have g0 := free_of hu5 0; have g1 := free_of hu5 1; simp at e0 e2 v0 v1; replace ho5 := Aside0.mk ho5; replace hu5 := Aside0.mk hu5; replace hb5 := Aside0.mk hb5)))
 have hFe : Fr (fun k => k = rb) w5 ((w5.setCell ⟨rb, 0, none⟩ (.pointer (some ⟨b, 0, none⟩))).setCell ⟨rb, 1, none⟩ (.pointer (some ⟨sc, 0, none⟩))) := ((Fr.refl (fun k => k = rb) w5).setCell (p := ⟨rb, 0, none⟩) (.inl rfl) _).setCell (p := ⟨rb, 1, none⟩) (.inl rfl) _
 have hJ5 := (hJ3.out.calm hb5.out).frX hFe (fun k e => .inr e)
 have ho6 := hFe.heap ho5.out hne
 have hF6 := (hF3.out.trans (Fr.of_below (S := fun _ => False) hb5.out) (fun _ _ h => h.elim)).trans hFe (fun k hk e => by have := hrb.out; omega)
 have hD6 := HD.keep _ _ _ hD.out hF6
 replace hJ5 := Aside0.mk hJ5; replace ho6 := Aside0.mk ho6; replace hF6 := Aside0.mk hF6; replace hD6 := Aside0.mk hD6
 clear hFe
 go_wp2
 (try simp only [Exit.inBlock, Exit.then])
 refine bodyPost_ret (v := .agg #[.pointer (some ⟨b, 0, none⟩), .pointer (some ⟨sc, 0, none⟩)]) ?_ rfl ⟨rfl, hJ5.out.less (fun k hk => .inl hk), ho6.out, hF6.out, hD6.out⟩
 simp only [results]; go_simp
end H
end Go.Proofs.YtkihaebaccdjdaaGreatDoor
set_option linter.unusedVariables false
set_option linter.unusedSimpArgs false
namespace Go.Proofs.YtkihaebaccdjdaaGreatDoor
open Go.RowKit Go.Proofs.YtkihaebaccdjdaaGreatDoorW.PrintWords Go.Proofs.YtkihaebaccdjdaaGreatDoorW.PrintLast Go.Proofs.YtkihaebaccdjdaaGreatDoorW.PrintMore
namespace H
/-! ### impl.inJSON, impl.EncodeJSON: a text -/
/-- A node by its fields. -/
def ND (kind : Int) (text : ByteArray) (num : Int) (names kids flat : Value) (item kn vn : ByteArray) (attrs : Value) : Value := .agg #[.int .i64 kind, .string text, .int .i64 num, names, kids, flat, .string item, .string kn, .string vn, attrs]
def NDc (kind : Int) (text : ByteArray) (num : Int) (names kids flat : Value) (item kn vn : ByteArray) (attrs : Value) : Array Value := #[.int .i64 kind, .string text, .int .i64 num, names, kids, flat, .string item, .string kn, .string vn, attrs]
set_option maxHeartbeats 2000000 in
set_option maxRecDepth 100000 in
theorem jin0 {dec : List Int → Int × Nat} {D : World → Prop} {B b sc : Nat} {X : Nat → Prop} {xs : List Int} (HD : DD dec D B) (s : ByteArray) (num : Int) (item kn vn : ByteArray) (a1 a2 a3 a4 : Option Addr) (n1 n2 n3 n4 c1 c2 c3 c4 : Nat) (w : World) (h : JB 150 B X b xs w) (hD : D w) (hs : s.size ≤ 2147483647) (hl : (xs ++ [34] ++ esc dec s.size (bytesOf s) ++ [34]).length ≤ 140737488355328) :
 Calls Tryz.prog 39 #[.agg #[.pointer (some ⟨b, 0, none⟩), .pointer (some ⟨sc, 0, none⟩)], ND 0 s num (.slice a1 n1 c1) (.slice a2 n2 c2) (.slice a3 n3 c3) item kn vn (.slice a4 n4 c4)] w fun e w' => e = .returned (.tuple #[]) ∧ Wrote 150 B X b (xs ++ [34] ++ esc dec s.size (bytesOf s) ++ [34]) w w' ∧ D w' := by
 replace h := Aside0.mk h
 replace hD := Aside0.mk hD
 unfold ND
 go_enter Tryz.func39, Tryz.ntmps39
 go_wp2_with fail
 have hb := below_alloc (below_alloc (Below.refl w.heap.size w) (.cells #[.pointer (some ⟨b, 0, none⟩), .pointer (some ⟨sc, 0, none⟩)] 88)) (.cells (NDc 0 s num (.slice a1 n1 c1) (.slice a2 n2 c2) (.slice a3 n3 c3) item kn vn (.slice a4 n4 c4)) 28)
 unfold NDc at hb
 generalize (w.alloc (.cells #[.pointer (some ⟨b, 0, none⟩), .pointer (some ⟨sc, 0, none⟩)] 88)).alloc (.cells #[.int .i64 0, .string s, .int .i64 num, .slice a1 n1 c1, .slice a2 n2 c2, .slice a3 n3 c3, .string item, .string kn, .string vn, .slice a4 n4 c4] 28) = w1 at *
 refine (jstring HD s w1 (h.out.calm hb) (HD.keep (fun _ => False) _ _ hD.out (Fr.of_below hb)) hs hl).mono ?_
 rintro e w2 ⟨rfl, hw, hD2⟩
 go_wp2
 refine bodyPost_end (results_none rfl _ _ _) rfl ?_
 exact ⟨rfl, ⟨hw.1, (Fr.of_below (S := fun k => B ≤ k ∧ ¬ X k) hb).trans hw.2 (fun _ _ h => h)⟩, hD2⟩
end H
end Go.Proofs.YtkihaebaccdjdaaGreatDoor
set_option linter.unusedVariables false
set_option linter.unusedSimpArgs false
namespace Go.Proofs.YtkihaebaccdjdaaGreatDoor
open Go.RowKit Go.Proofs.YtkihaebaccdjdaaGreatDoorW.PrintWords Go.Proofs.YtkihaebaccdjdaaGreatDoorW.PrintLast Go.Proofs.YtkihaebaccdjdaaGreatDoorW.PrintMore
namespace H
theorem drewB (w : World) : Below w.heap.size w w.drew := ⟨rfl, rfl, rfl, Nat.le_refl _, fun _ _ => rfl⟩
theorem undrewF {S : Nat → Prop} {w w' : World} (h : Fr S w.drew w') : Fr S w w' := ⟨h.os, h.tape, h.output, h.size, h.block⟩
theorem JB.plus {T T' : TypeId} {B b ob : Nat} {X : Nat → Prop} {xs : List Int} {w : World} {cs : Array Value} {z : Nat × Nat} (h : JB T B X b xs w) (ho : w.heap[ob]? = some (.cells cs T' z)) (h5 : T' ≠ 5) (hT : T' ≠ T) : JB T B (fun k => X k ∨ k = ob) b xs w := by
 obtain ⟨v, h1, h2, h3⟩ := h.out
 refine ⟨⟨v, h1, h2, fun k hk e => ?_⟩, h.ge, fun e => ?_, fun k hk => ?_⟩
 ·rcases e with e | e
  ·exact h3 k hk e
  ·exact own_ne h5 ho h2 k hk e
 ·rcases e with e | e
  ·exact h.ne e
  ·subst e
   rw [h1] at ho
   injection ho with ho
   injection ho with _ ho _
   exact hT ho.symm
 ·rcases hk with hk | hk
  ·exact h.low k hk
  ·subst hk; exact lt_of ho
set_option maxHeartbeats 2000000 in
set_option maxRecDepth 100000 in
theorem jin1 {dec : List Int → Int × Nat} {D : World → Prop} {B b sc : Nat} {X : Nat → Prop} {xs : List Int} (HD : DD dec D B) (nm t : ByteArray) (num : Int) (item kn vn : ByteArray) (na ka : Nat) (a3 : Option Addr) (a4 : Option Addr) (n3 n4 c1 c2 c3 c4 : Nat)
 (s0 : ByteArray) (num0 : Int) (i0 k0 v0 : ByteArray) (d1 d2 d3 d4 : Option Addr) (r1 r2 r3 r4 e1 e2 e3 e4 : Nat) (w : World) (h : JB 150 B X b xs w) (hD : D w) (z1 z2 : Nat × Nat)
 (hna : w.heap[na]? = some (.cells #[.string nm] 9 z1)) (hka : w.heap[ka]? = some (.cells (NDc 0 s0 num0 (.slice d1 r1 e1) (.slice d2 r2 e2) (.slice d3 r3 e3) i0 k0 v0 (.slice d4 r4 e4)) 28 z2)) (hXn : na < B) (hXk : ka < B)
 (hs : nm.size ≤ 2147483647) (hs0 : s0.size ≤ 2147483647)
 (hl : ((((xs ++ [123]) ++ [34] ++ esc dec nm.size (bytesOf nm) ++ [34] ++ [58]) ++ [34] ++ esc dec s0.size (bytesOf s0) ++ [34]) ++ [125]).length ≤ 140737488355328) :
 Calls Tryz.prog 39 #[.agg #[.pointer (some ⟨b, 0, none⟩), .pointer (some ⟨sc, 0, none⟩)], ND 7 t num (.slice (some ⟨na, 0, none⟩) 1 c1) (.slice (some ⟨ka, 0, none⟩) 1 c2) (.slice a3 n3 c3) item kn vn (.slice a4 n4 c4)] w fun e w' => e = .returned (.tuple #[]) ∧
  Wrote 150 B X b ((((xs ++ [123]) ++ [34] ++ esc dec nm.size (bytesOf nm) ++ [34] ++ [58]) ++ [34] ++ esc dec s0.size (bytesOf s0) ++ [34]) ++ [125]) w w' ∧ D w' := by
 have hx1 : xs.length + 1 ≤ 140737488355328 := by simp at hl; omega
 have hx2 : Aside0 (((xs ++ [123]) ++ [34] ++ esc dec nm.size (bytesOf nm) ++ [34]).length + 1 ≤ 140737488355328) := ⟨by simp at hl ⊢; omega⟩
 have hx3 : Aside0 ((((xs ++ [123]) ++ [34] ++ esc dec nm.size (bytesOf nm) ++ [34] ++ [58]) ++ [34] ++ esc dec s0.size (bytesOf s0) ++ [34]).length + 1 ≤ 140737488355328) := ⟨by simp at hl ⊢; omega⟩
 replace h := Aside0.mk h
 replace hD := Aside0.mk hD
 replace hl := Aside0.mk hl
 replace hna := Aside0.mk hna
 replace hka := Aside0.mk hka
 unfold ND
 go_enter Tryz.func39, Tryz.ntmps39
 go_wp2_with fail
 have hb := below_alloc (below_alloc (Below.refl w.heap.size w) (.cells #[.pointer (some ⟨b, 0, none⟩), .pointer (some ⟨sc, 0, none⟩)] 88)) (.cells (NDc 7 t num (.slice (some ⟨na, 0, none⟩) 1 c1) (.slice (some ⟨ka, 0, none⟩) 1 c2) (.slice a3 n3 c3) item kn vn (.slice a4 n4 c4)) 28)
 have hnd := heap_new (w.alloc (.cells #[.pointer (some ⟨b, 0, none⟩), .pointer (some ⟨sc, 0, none⟩)] 88)) (.cells (NDc 7 t num (.slice (some ⟨na, 0, none⟩) 1 c1) (.slice (some ⟨ka, 0, none⟩) 1 c2) (.slice a3 n3 c3) item kn vn (.slice a4 n4 c4)) 28)
 have hsz : (w.alloc (.cells #[.pointer (some ⟨b, 0, none⟩), .pointer (some ⟨sc, 0, none⟩)] 88)).heap.size = w.heap.size + 1 := by simp
 rw [hsz] at hnd
 unfold NDc at hb hnd
 have hJ1 := Aside0.mk (h.out.also hb (g := w.heap.size + 1) (by omega) (by simp))
 generalize (w.alloc (.cells #[.pointer (some ⟨b, 0, none⟩), .pointer (some ⟨sc, 0, none⟩)] 88)).alloc (.cells #[.int .i64 7, .string t, .int .i64 num, .slice (some ⟨na, 0, none⟩) 1 c1, .slice (some ⟨ka, 0, none⟩) 1 c2, .slice a3 n3 c3, .string item, .string kn, .string vn, .slice a4 n4 c4] 28) = w1 at *
 obtain ⟨nd, hndq⟩ : ∃ nd, w.heap.size + 1 = nd := ⟨_, rfl⟩
 have hBw : B ≤ w.heap.size := by have := h.out.ge; have := h.out.lt; omega
 rw [hndq] at hJ1 hnd ⊢
 have hBn : B ≤ nd := by omega
 have hF1 := Aside0.mk (Fr.of_below (S := fun k => B ≤ k ∧ ¬ X k) hb)
 have hD1 := Aside0.mk (HD.keep X _ _ hD.out hF1.out)
 have hna1 := Aside0.mk (heap_below hb hna.out)
 have hka1 := Aside0.mk (heap_below hb hka.out)
 have hhn : Aside0 (w.heap.size < nd) := ⟨by omega⟩
 have hXnd : Aside0 (¬ X nd) := ⟨fun e => by have := h.out.low _ e; have := hhn.out; omega⟩
 clear hna hka hD h hb hsz
 refine (jobj w1 hJ1.out hx1).mono ?_
 rintro e w2 ⟨ob, rfl, hw2, hob, hO2, hob1⟩
 have hn2 := hw2.2.heap hnd (fun e => e.2 (.inr rfl))
 have hna2 := Aside0.mk (hw2.2.heap hna1.out (fun e => absurd e.1 (by omega)))
 have hka2 := Aside0.mk (hw2.2.heap hka1.out (fun e => absurd e.1 (by omega)))
 have hJ2 := Aside0.mk (hw2.1.plus hO2 (by decide) (by decide))
 have hD2 := Aside0.mk (HD.keep _ _ _ hD1.out hw2.2)
 have hF2 := Aside0.mk (hF1.out.trans hw2.2 (fun k _ e => ⟨e.1, fun x => e.2 (.inl x)⟩))
 have m3 := cell_at hn2 3; have m4 := cell_at hn2 4
 simp at m3 m4
 have m5 := cell_at hna2.out 0
 simp at m5
 have hBo : B ≤ ob := by have := hw2.1.ge; have := hJ1.out.lt; have := hJ1.out.ge; omega
 have hXo : Aside0 (¬ (X ob ∨ ob = nd)) := ⟨fun e => by have := hJ1.out.low _ e; omega⟩
 replace hn2 := Aside0.mk hn2; replace hO2 := Aside0.mk hO2; replace hw2 := Aside0.mk hw2
 go_wp2_with fail
 go_loopg [76] 2 (fun q v76 w' => (v76 = .int .i64 0 ∧ q = 2 ∧ w' = w2) ∨ (v76 = .int .i64 1 ∧ q = 1 ∧ Aside0 (JB 150 B (fun k => (X k ∨ k = nd) ∨ k = ob) b (((xs ++ [123]) ++ [34] ++ esc dec nm.size (bytesOf nm) ++ [34] ++ [58]) ++ [34] ++ esc dec s0.size (bytesOf s0) ++ [34]) w') ∧
  Aside0 (w'.heap[ob]? = some (.cells #[.pointer (some ⟨b, 0, none⟩), .bool true, .pointer (some ⟨sc, 0, none⟩)] 200 (0, 0))) ∧ Aside0 (Fr (fun k => B ≤ k ∧ ¬ X k) w w') ∧ Aside0 (D w')))
 case atStart => exact .inl ⟨rfl, rfl, rfl⟩
 case round =>
  rcases hrel with ⟨rfl, rfl, rfl⟩ | ⟨rfl, rfl, hJ, hO, hF, hDx⟩
  ·clear m3
   go_wp2_with fail
   have hka2c := hka2.out
   have p0 := cell_at hka2c 0; have p1 := cell_at hka2c 1; have p2 := cell_at hka2c 2; have p3 := cell_at hka2c 3; have p4 := cell_at hka2c 4; have p5 := cell_at hka2c 5; have p6 := cell_at hka2c 6; have p7 := cell_at hka2c 7; have p8 := cell_at hka2c 8; have p9 := cell_at hka2c 9
   unfold NDc at p0 p1 p2 p3 p4 p5 p6 p7 p8 p9
   simp at p0 p1 p2 p3 p4 p5 p6 p7 p8 p9
   clear hka2c
   go_region_held3 (fun w' => w'.cell? ⟨nd, 4, none⟩ = some (.slice (some ⟨ka, 0, none⟩) 1 c2) ∧ w'.cell? ⟨ka, 0, none⟩ = some (.int .i64 0) ∧ w'.cell? ⟨ka, 1, none⟩ = some (.string s0) ∧ w'.cell? ⟨ka, 2, none⟩ = some (.int .i64 num0) ∧ w'.cell? ⟨ka, 3, none⟩ = some (.slice d1 r1 e1) ∧ w'.cell? ⟨ka, 4, none⟩ = some (.slice d2 r2 e2) ∧ w'.cell? ⟨ka, 5, none⟩ = some (.slice d3 r3 e3) ∧ w'.cell? ⟨ka, 6, none⟩ = some (.string i0) ∧ w'.cell? ⟨ka, 7, none⟩ = some (.string k0) ∧ w'.cell? ⟨ka, 8, none⟩ = some (.string v0) ∧ w'.cell? ⟨ka, 9, none⟩ = some (.slice d4 r4 e4)) (simp [*, World.cell?_setCell_far]) (first | ((go_at_call 96; refine (jkey HD nm _ (hJ2.out.calm (drewB _)) hXo.out hBo hO2.out (HD.keep X _ _ hD2.out (Fr.of_below (drewB _))) hs hx2.out).mono ?_; rintro e w3 ⟨rfl, hJ3, hO3, hF3, hD3⟩; replace hF3 := undrewF hF3; have hn3 := hF3.heap hn2.out (fun e => e.2 (.inr rfl)); have m4 := cell_at hn3 4; simp at m4; have hka3 := hF3.heap hka2.out (fun e => absurd e.1 (by omega)); have q0 := cell_at hka3 0; have q1 := cell_at hka3 1; have q2 := cell_at hka3 2; have q3 := cell_at hka3 3; have q4 := cell_at hka3 4; have q5 := cell_at hka3 5; have q6 := cell_at hka3 6; have q7 := cell_at hka3 7; have q8 := cell_at hka3 8; have q9 := cell_at hka3 9; unfold NDc at q0 q1 q2 q3 q4 q5 q6 q7 q8 q9; simp at q0 q1 q2 q3 q4 q5 q6 q7 q8 q9; replace hJ3 := Aside0.mk hJ3; replace hO3 := Aside0.mk hO3; replace hF3 := Aside0.mk hF3; replace hD3 := Aside0.mk hD3; replace hn3 := Aside0.mk hn3; replace hka3 := Aside0.mk hka3)) | ((go_at_call 39; refine (jin0 HD s0 num0 i0 k0 v0 _ _ _ _ _ _ _ _ _ _ _ _ _ hJ3.out hD3.out hs0 (Nat.le_of_succ_le hx3.out)).mono ?_; rintro e w4 ⟨rfl, hw4, hD4⟩; have hO4 := hw4.2.heap hO3.out (fun e => e.2 (.inr rfl)); have hF4 := (hF2.out.trans hF3.out (fun k _ e => ⟨e.1, fun x => e.2 (.inl x)⟩)).trans hw4.2 (fun k _ e => ⟨e.1, fun x => e.2 (.inl (.inl x))⟩); have hJ4 := hw4.1; replace hO4 := Aside0.mk hO4; replace hF4 := Aside0.mk hF4; replace hJ4 := Aside0.mk hJ4; replace hD4 := Aside0.mk hD4; have hn4 := hw4.2.heap hn3.out (fun e => e.2 (.inl (.inr rfl))); have m4 := cell_at hn4 4; simp at m4; have hka4 := hw4.2.heap hka3.out (fun e => absurd e.1 (by omega)); have q0 := cell_at hka4 0; have q1 := cell_at hka4 1; have q2 := cell_at hka4 2; have q3 := cell_at hka4 3; have q4 := cell_at hka4 4; have q5 := cell_at hka4 5; have q6 := cell_at hka4 6; have q7 := cell_at hka4 7; have q8 := cell_at hka4 8; have q9 := cell_at hka4 9; unfold NDc at q0 q1 q2 q3 q4 q5 q6 q7 q8 q9; simp at q0 q1 q2 q3 q4 q5 q6 q7 q8 q9; replace hn4 := Aside0.mk hn4; replace hka4 := Aside0.mk hka4; clear hw4)))
   all_goals
    go_wp2_with fail
    go_roundg 1
    case rel => exact .inr ⟨rfl, rfl, hJ4, hO4, hF4, hD4⟩
    case measure => omega
  ·clear hJ2 hO2 hD2 hF2 hw2 m3 m4 m5
   go_wp2_with fail
   have hc := cell_at hO.out 0
   simp at hc
   refine (jclose (v1 := .bool true) (v2 := .pointer (some ⟨sc, 0, none⟩)) wr hJ.out hc (by have := hl.out; rw [List.length_append] at this; exact this)).mono ?_
   rintro e w4 ⟨rfl, hw4⟩
   have hJ4 := Aside0.mk (hw4.1.less (fun k hk => .inl (.inl hk)))
   have hF4 := Aside0.mk (hF.out.trans hw4.2 (fun k _ e => ⟨e.1, fun x => e.2 (.inl (.inl x))⟩))
   have hD4 := Aside0.mk (HD.keep _ _ _ hDx.out hw4.2)
   clear hw4
   go_wp2
   refine bodyPost_end (results_none rfl _ _ _) rfl ?_
   exact ⟨rfl, ⟨hJ4.out, hF4.out⟩, hD4.out⟩
end H
end Go.Proofs.YtkihaebaccdjdaaGreatDoor
