import Derived.Test.YtkihaebaccdjdaaGreatDoorJ32
import Derived.Test.YtkihaebaccdjdaaGreatDoorJ4
set_option linter.unusedVariables false
set_option linter.unusedSimpArgs false
namespace Go.Proofs.YtkihaebaccdjdaaGreatDoor
open Go.RowKit Go.Proofs.YtkihaebaccdjdaaGreatDoorW.PrintWords Go.Proofs.YtkihaebaccdjdaaGreatDoorW.PrintLast Go.Proofs.YtkihaebaccdjdaaGreatDoorW.PrintMore
namespace H
/-! ### Object.Key, not the first one; Array -/
set_option maxHeartbeats 4000000 in
set_option maxRecDepth 100000 in
theorem jkeyT {dec : List Int → Int × Nat} {D : World → Prop} {B b ob sc : Nat} {X : Nat → Prop} {xs : List Int} (HD : DD dec D B) (s : ByteArray) (w : World) (h : JB 150 B (fun k => X k ∨ k = ob) b xs w) (hXo : ¬ X ob) (hBo : B ≤ ob)
    (ho : w.heap[ob]? = some (.cells #[.pointer (some ⟨b, 0, none⟩), .bool true, .pointer (some ⟨sc, 0, none⟩)] 200 (0, 0))) (hD : D w) (hs : s.size ≤ 2147483647) (hl : (xs ++ [44] ++ [34] ++ esc dec s.size (bytesOf s) ++ [34]).length + 1 ≤ 140737488355328) :
    Calls Tryz.prog 96 #[.pointer (some ⟨ob, 0, none⟩), .string s] w fun e w' => e = .returned (.agg #[.pointer (some ⟨b, 0, none⟩), .pointer (some ⟨sc, 0, none⟩)]) ∧ JB 150 B (fun k => X k ∨ k = ob) b (xs ++ [44] ++ [34] ++ esc dec s.size (bytesOf s) ++ [34] ++ [58]) w' ∧
      w'.heap[ob]? = some (.cells #[.pointer (some ⟨b, 0, none⟩), .bool true, .pointer (some ⟨sc, 0, none⟩)] 200 (0, 0)) ∧ Fr (fun k => B ≤ k ∧ ¬ X k) w w' ∧ D w' := by
  have hblt := h.lt
  have hl1 : xs.length + 1 ≤ 140737488355328 := by simp at hl; omega
  replace h := Aside0.mk h
  replace hD := Aside0.mk hD
  replace hl := Aside0.mk hl
  have hlt := lt_of ho
  have hb1 := below_alloc (Below.refl w.heap.size w) (.cells #[.pointer none, .pointer none] 88)
  have hu := heap_new w (.cells #[.pointer none, .pointer none] 88)
  have ho1 := heap_below hb1 ho
  have hJ1 : JB 150 B (fun k => (X k ∨ k = ob) ∨ k = w.heap.size) b xs (w.alloc (.cells #[.pointer none, .pointer none] 88)) := h.out.also hb1 (g := w.heap.size) (Nat.le_refl _) (by simp)
  have b0 := cell_at ho 0; have b1 := cell_at ho 1; have b2 := cell_at ho 2
  have y0 := free_of ho 1
  simp at b0 b1 b2
  replace ho := Aside0.mk ho; replace ho1 := Aside0.mk ho1; replace hJ1 := Aside0.mk hJ1; replace hu := Aside0.mk hu; replace hb1 := Aside0.mk hb1
  go_enter Tryz.func96, Tryz.ntmps96
  go_wp2_with fail
  obtain ⟨rb, hrb⟩ : ∃ rb, w.heap.size = rb := ⟨_, rfl⟩
  have hne : ob ≠ rb := by omega
  have hne2 : ¬ rb = ob := Ne.symm hne
  have hFw := Aside0.mk (Fr.of_below (S := fun k => B ≤ k ∧ ¬ X k) hb1.out)
  rw [hrb] at hu hJ1 ⊢
  generalize w.alloc (.cells #[.pointer none, .pointer none] 88) = w1 at *
  refine (jwr 44 ⟨#[44]⟩ cv44 w1 hJ1.out (by show _ + 1 ≤ _; exact hl1)).mono ?_
  rintro e w2 ⟨n, rfl, hw2⟩
  have ho2 := hw2.2.heap ho1.out (fun e => e.2 (.inl (.inr rfl)))
  have hu2 := Aside0.mk (hw2.2.heap hu.out (fun e => e.2 (.inr rfl)))
  have hFw2 := Aside0.mk (hFw.out.trans hw2.2 (fun k _ e => ⟨e.1, fun hx => e.2 (.inl (.inl hx))⟩))
  have hJ2 := Aside0.mk hw2.1
  clear hw2 hJ1 ho1 hu hFw b0 b1 b2 y0 hb1
  have b0 := cell_at ho2 0; have b1 := cell_at ho2 1; have b2 := cell_at ho2 2
  simp at b0 b1 b2
  have y0 := free_of ho2 1
  replace ho2 := Aside0.mk ho2
  go_wp2_with fail
  have hD2 := HD.keep _ _ _ hD.out hFw2.out
  refine (jwkey HD s w2 hJ2.out (.inl (.inr rfl)) ho2.out rfl hD2 hs hl.out).mono ?_
  rintro e w3 ⟨rfl, hw3, hD3⟩
  have ho3 := Aside0.mk (hw3.2.heap ho2.out (fun e => e.2 (.inl (.inr rfl))))
  have hu3 := Aside0.mk (hw3.2.heap hu2.out (fun e => e.2 (.inr rfl)))
  have hF3 := Aside0.mk (hFw2.out.trans hw3.2 (fun k _ e => ⟨e.1, fun hx => e.2 (.inl (.inl hx))⟩))
  have hJ3 := Aside0.mk hw3.1
  replace hD3 := Aside0.mk hD3; replace hrb := Aside0.mk hrb
  clear hw3 hJ2 b0 b1 b2 y0 ho2 hD2 hu2 hFw2
  have d0 := cell_at ho3.out 0; have d2 := cell_at ho3.out 2
  have z0 := cell_at hu3.out 0; have z1 := cell_at hu3.out 1
  have f0 := free_of hu3.out 0; have f1 := free_of hu3.out 1
  simp at d0 d2 z0 z1
  go_wp2_with fail
  go_region_held3 (fun w' => w'.cell? ⟨ob, 0, none⟩ = some (.pointer (some ⟨b, 0, none⟩)) ∧ w'.cell? ⟨ob, 2, none⟩ = some (.pointer (some ⟨sc, 0, none⟩))) (simp [*, World.cell?_setCell_far]) (first | ((go_at_call 86; refine (jnewV b sc _).mono ?_; rintro e w5 ⟨rfl, hb5⟩; replace hb5 := undrew hb5; have ho5 := heap_below hb5 ho3.out; have hu5 := heap_below hb5 hu3.out; have e0 := cell_at ho5 0; have e2 := cell_at ho5 2; have v0 := cell_at hu5 0; have v1 := cell_at hu5 1; have g0 := free_of hu5 0; have g1 := free_of hu5 1; simp at e0 e2 v0 v1; replace ho5 := Aside0.mk ho5; replace hu5 := Aside0.mk hu5; replace hb5 := Aside0.mk hb5)))
  have hFe : Fr (fun k => k = rb) w5 ((w5.setCell ⟨rb, 0, none⟩ (.pointer (some ⟨b, 0, none⟩))).setCell ⟨rb, 1, none⟩ (.pointer (some ⟨sc, 0, none⟩))) := ((Fr.refl (fun k => k = rb) w5).setCell (p := ⟨rb, 0, none⟩) (.inl rfl) _).setCell (p := ⟨rb, 1, none⟩) (.inl rfl) _
  have hJ5 := (hJ3.out.calm hb5.out).frX hFe (fun k e => .inr e)
  have ho6 := hFe.heap ho5.out hne
  have hF6 := (hF3.out.trans (Fr.of_below (S := fun _ => False) hb5.out) (fun _ _ h => h.elim)).trans hFe (fun k hk e => by have := hrb.out; omega)
  have hD6 := HD.keep _ _ _ hD.out hF6
  replace hJ5 := Aside0.mk hJ5; replace ho6 := Aside0.mk ho6; replace hF6 := Aside0.mk hF6; replace hD6 := Aside0.mk hD6
  clear hFe
  go_wp2
  (try simp only [Exit.inBlock, Exit.then])
  refine bodyPost_ret (v := .agg #[.pointer (some ⟨b, 0, none⟩), .pointer (some ⟨sc, 0, none⟩)]) ?_ rfl ⟨rfl, hJ5.out.less (fun k hk => .inl hk), ho6.out, hF6.out, hD6.out⟩
  simp only [results]; go_simp
theorem cv91 (w : World) : (convert 21 9 (.int .i32 91)).run Tryz.prog w = .ok (.string ⟨#[91]⟩) w := by kernel_rfl
theorem cv93 (w : World) : (convert 21 9 (.int .i32 93)).run Tryz.prog w = .ok (.string ⟨#[93]⟩) w := by kernel_rfl
theorem cv34 (w : World) : (convert 21 9 (.int .i32 34)).run Tryz.prog w = .ok (.string ⟨#[34]⟩) w := by kernel_rfl
set_option maxHeartbeats 1000000 in
set_option maxRecDepth 100000 in
theorem jnewA {B b sc : Nat} {X : Nat → Prop} {xs : List Int} (w : World) (h : JB 150 B X b xs w) (hl : xs.length + 1 ≤ 140737488355328) :
    Calls Tryz.prog 160 #[.pointer (some ⟨b, 0, none⟩), .pointer (some ⟨sc, 0, none⟩)] w fun e w' => ∃ ob, e = .returned (.pointer (some ⟨ob, 0, none⟩)) ∧ Wrote 150 B X b (xs ++ [91]) w w' ∧ w.heap.size ≤ ob ∧ w'.heap[ob]? = some (.cells #[.pointer (some ⟨b, 0, none⟩), .bool false, .pointer (some ⟨sc, 0, none⟩)] 203 (0, 0)) ∧ ob + 1 = w'.heap.size := by
  replace h := Aside0.mk h
  go_enter Tryz.func160, Tryz.ntmps160
  go_wp2_with fail
  refine (jwr 91 ⟨#[91]⟩ cv91 w h.out (by show _ + 1 ≤ _; omega)).mono ?_
  rintro e w1 ⟨n, rfl, hw1⟩
  have hs := hw1.2.size
  go_wp2
  go_ret
  have hb3 := below_alloc (Below.refl w1.heap.size w1) (.cells #[.pointer (some ⟨b, 0, none⟩), .bool false, .pointer (some ⟨sc, 0, none⟩)] 203)
  exact ⟨w1.heap.size, rfl, hw1.calm hb3, hs, heap_new _ _, by simp⟩
set_option maxHeartbeats 1000000 in
set_option maxRecDepth 100000 in
theorem jarr {B b sc : Nat} {X : Nat → Prop} {xs : List Int} (w : World) (h : JB 150 B X b xs w) (hl : xs.length + 1 ≤ 140737488355328) :
    Calls Tryz.prog 98 #[.agg #[.pointer (some ⟨b, 0, none⟩), .pointer (some ⟨sc, 0, none⟩)]] w fun e w' => ∃ ob, e = .returned (.pointer (some ⟨ob, 0, none⟩)) ∧ Wrote 150 B X b (xs ++ [91]) w w' ∧ w.heap.size ≤ ob ∧ w'.heap[ob]? = some (.cells #[.pointer (some ⟨b, 0, none⟩), .bool false, .pointer (some ⟨sc, 0, none⟩)] 203 (0, 0)) ∧ ob + 1 = w'.heap.size := by
  replace h := Aside0.mk h
  go_enter Tryz.func98, Tryz.ntmps98
  go_wp2_with fail
  have hb := below_alloc (Below.refl w.heap.size w) (.cells #[.pointer (some ⟨b, 0, none⟩), .pointer (some ⟨sc, 0, none⟩)] 88)
  have hsz : (w.alloc (.cells #[.pointer (some ⟨b, 0, none⟩), .pointer (some ⟨sc, 0, none⟩)] 88)).heap.size = w.heap.size + 1 := by simp
  generalize w.alloc (.cells #[.pointer (some ⟨b, 0, none⟩), .pointer (some ⟨sc, 0, none⟩)] 88) = w1 at *
  refine (jnewA (sc := sc) w1 (h.out.calm hb) hl).mono ?_
  rintro e w2 ⟨ob, rfl, hw, hob, ho, ho1⟩
  go_wp2
  go_ret
  exact ⟨ob, rfl, Wrote.from hb h.out.low hw (fun k hk => hk), by omega, ho, ho1⟩
set_option maxHeartbeats 1000000 in
set_option maxRecDepth 100000 in
theorem jcloseA {B b ob : Nat} {X : Nat → Prop} {xs : List Int} (w : World) (h : JB 150 B X b xs w) (ho : w.cell? ⟨ob, 0, none⟩ = some (.pointer (some ⟨b, 0, none⟩))) (hl : xs.length + 1 ≤ 140737488355328) :
    Calls Tryz.prog 100 #[.pointer (some ⟨ob, 0, none⟩)] w fun e w' => e = .returned (.tuple #[]) ∧ Wrote 150 B X b (xs ++ [93]) w w' := by
  replace h := Aside0.mk h
  go_enter Tryz.func100, Tryz.ntmps100
  go_wp2_with fail
  refine (jwr 93 ⟨#[93]⟩ cv93 w h.out (by show _ + 1 ≤ _; omega)).mono ?_
  rintro e w1 ⟨n, rfl, hw1⟩
  go_wp2
  refine bodyPost_end (results_none rfl _ _ _) rfl ?_
  exact ⟨rfl, hw1⟩
set_option maxHeartbeats 1000000 in
set_option maxRecDepth 100000 in
theorem jnull {B b sc : Nat} {X : Nat → Prop} {xs : List Int} (w : World) (h : JB 150 B X b xs w) (hl : xs.length + 4 ≤ 140737488355328) :
    Calls Tryz.prog 93 #[.agg #[.pointer (some ⟨b, 0, none⟩), .pointer (some ⟨sc, 0, none⟩)]] w fun e w' => e = .returned (.tuple #[]) ∧ Wrote 150 B X b (xs ++ bytesOf ⟨#[110, 117, 108, 108]⟩) w w' := by
  replace h := Aside0.mk h
  go_enter Tryz.func93, Tryz.ntmps93
  go_wp2_with fail
  have hb := below_alloc (Below.refl w.heap.size w) (.cells #[.pointer (some ⟨b, 0, none⟩), .pointer (some ⟨sc, 0, none⟩)] 88)
  generalize w.alloc (.cells #[.pointer (some ⟨b, 0, none⟩), .pointer (some ⟨sc, 0, none⟩)] 88) = w1 at *
  refine (jws ⟨#[110, 117, 108, 108]⟩ w1 (h.out.calm hb) (by show _ + 4 ≤ _; exact hl)).mono ?_
  rintro e w2 ⟨rfl, hw⟩
  go_wp2
  refine bodyPost_end (results_none rfl _ _ _) rfl ?_
  exact ⟨rfl, Wrote.from hb h.out.low hw (fun k hk => hk)⟩
set_option maxHeartbeats 4000000 in
set_option maxRecDepth 100000 in
theorem javT {dec : List Int → Int × Nat} {D : World → Prop} {B b ob sc : Nat} {X : Nat → Prop} {xs : List Int} (HD : DD dec D B) (w : World) (h : JB 150 B (fun k => X k ∨ k = ob) b xs w) (hXo : ¬ X ob) (hBo : B ≤ ob)
    (ho : w.heap[ob]? = some (.cells #[.pointer (some ⟨b, 0, none⟩), .bool true, .pointer (some ⟨sc, 0, none⟩)] 203 (0, 0))) (hD : D w) (hl : xs.length + 1 ≤ 140737488355328) :
    Calls Tryz.prog 99 #[.pointer (some ⟨ob, 0, none⟩)] w fun e w' => e = .returned (.agg #[.pointer (some ⟨b, 0, none⟩), .pointer (some ⟨sc, 0, none⟩)]) ∧ JB 150 B (fun k => X k ∨ k = ob) b (xs ++ [44]) w' ∧
      w'.heap[ob]? = some (.cells #[.pointer (some ⟨b, 0, none⟩), .bool true, .pointer (some ⟨sc, 0, none⟩)] 203 (0, 0)) ∧ Fr (fun k => B ≤ k ∧ ¬ X k) w w' ∧ D w' := by
  have hblt := h.lt
  replace h := Aside0.mk h
  replace hD := Aside0.mk hD
  have hlt := lt_of ho
  have hb1 := below_alloc (Below.refl w.heap.size w) (.cells #[.pointer none, .pointer none] 88)
  have hu := heap_new w (.cells #[.pointer none, .pointer none] 88)
  have ho1 := heap_below hb1 ho
  have hJ1 : JB 150 B (fun k => (X k ∨ k = ob) ∨ k = w.heap.size) b xs (w.alloc (.cells #[.pointer none, .pointer none] 88)) := h.out.also hb1 (g := w.heap.size) (Nat.le_refl _) (by simp)
  have b0 := cell_at ho 0; have b1 := cell_at ho 1; have b2 := cell_at ho 2
  have y0 := free_of ho 1
  simp at b0 b1 b2
  replace ho := Aside0.mk ho; replace ho1 := Aside0.mk ho1; replace hJ1 := Aside0.mk hJ1; replace hu := Aside0.mk hu; replace hb1 := Aside0.mk hb1
  go_enter Tryz.func99, Tryz.ntmps99
  go_wp2_with fail
  obtain ⟨rb, hrb⟩ : ∃ rb, w.heap.size = rb := ⟨_, rfl⟩
  have hne : ob ≠ rb := by omega
  have hne2 : ¬ rb = ob := Ne.symm hne
  have hFw := Aside0.mk (Fr.of_below (S := fun k => B ≤ k ∧ ¬ X k) hb1.out)
  rw [hrb] at hu hJ1 ⊢
  generalize w.alloc (.cells #[.pointer none, .pointer none] 88) = w1 at *
  refine (jwr 44 ⟨#[44]⟩ cv44 w1 hJ1.out (by show _ + 1 ≤ _; exact hl)).mono ?_
  rintro e w2 ⟨n, rfl, hw2⟩
  have ho3 := Aside0.mk (hw2.2.heap ho1.out (fun e => e.2 (.inl (.inr rfl))))
  have hu3 := Aside0.mk (hw2.2.heap hu.out (fun e => e.2 (.inr rfl)))
  have hF3 := Aside0.mk (hFw.out.trans hw2.2 (fun k _ e => ⟨e.1, fun hx => e.2 (.inl (.inl hx))⟩))
  have hJ3 := Aside0.mk hw2.1
  replace hrb := Aside0.mk hrb
  clear hw2 hJ1 ho1 hu hFw b0 b1 b2 y0 hb1
  have d0 := cell_at ho3.out 0; have d2 := cell_at ho3.out 2
  simp at d0 d2
  have z0 := cell_at hu3.out 0; have z1 := cell_at hu3.out 1
  simp at z0 z1
  have f0 := free_of hu3.out 0; have f1 := free_of hu3.out 1
  go_wp2_with fail
  go_region_held3 (fun w' => w'.cell? ⟨ob, 0, none⟩ = some (.pointer (some ⟨b, 0, none⟩)) ∧ w'.cell? ⟨ob, 2, none⟩ = some (.pointer (some ⟨sc, 0, none⟩))) (simp [*, World.cell?_setCell_far]) (first | ((go_at_call 86; refine (jnewV b sc _).mono ?_; rintro e w5 ⟨rfl, hb5⟩; replace hb5 := undrew hb5; have ho5 := heap_below hb5 ho3.out; have hu5 := heap_below hb5 hu3.out; have e0 := cell_at ho5 0; have e2 := cell_at ho5 2; have v0 := cell_at hu5 0; have v1 := cell_at hu5 1; have g0 := free_of hu5 0; have g1 := free_of hu5 1; simp at e0 e2 v0 v1; replace ho5 := Aside0.mk ho5; replace hu5 := Aside0.mk hu5; replace hb5 := Aside0.mk hb5)))
  have hFe : Fr (fun k => k = rb) w5 ((w5.setCell ⟨rb, 0, none⟩ (.pointer (some ⟨b, 0, none⟩))).setCell ⟨rb, 1, none⟩ (.pointer (some ⟨sc, 0, none⟩))) := ((Fr.refl (fun k => k = rb) w5).setCell (p := ⟨rb, 0, none⟩) (.inl rfl) _).setCell (p := ⟨rb, 1, none⟩) (.inl rfl) _
  have hJ5 := (hJ3.out.calm hb5.out).frX hFe (fun k e => .inr e)
  have ho6 := hFe.heap ho5.out hne
  have hF6 := (hF3.out.trans (Fr.of_below (S := fun _ => False) hb5.out) (fun _ _ h => h.elim)).trans hFe (fun k hk e => by have := hrb.out; omega)
  have hD6 := HD.keep _ _ _ hD.out hF6
  replace hJ5 := Aside0.mk hJ5; replace ho6 := Aside0.mk ho6; replace hF6 := Aside0.mk hF6; replace hD6 := Aside0.mk hD6
  clear hFe
  go_wp2
  (try simp only [Exit.inBlock, Exit.then])
  refine bodyPost_ret (v := .agg #[.pointer (some ⟨b, 0, none⟩), .pointer (some ⟨sc, 0, none⟩)]) ?_ rfl ⟨rfl, hJ5.out.less (fun k hk => .inl hk), ho6.out, hF6.out, hD6.out⟩
  simp only [results]; go_simp
set_option maxHeartbeats 4000000 in
set_option maxRecDepth 100000 in
theorem javF {dec : List Int → Int × Nat} {D : World → Prop} {B b ob sc : Nat} {X : Nat → Prop} {xs : List Int} (HD : DD dec D B) (w : World) (h : JB 150 B (fun k => X k ∨ k = ob) b xs w) (hXo : ¬ X ob) (hBo : B ≤ ob)
    (ho : w.heap[ob]? = some (.cells #[.pointer (some ⟨b, 0, none⟩), .bool false, .pointer (some ⟨sc, 0, none⟩)] 203 (0, 0))) (hD : D w) (hl : xs.length + 1 ≤ 140737488355328) :
    Calls Tryz.prog 99 #[.pointer (some ⟨ob, 0, none⟩)] w fun e w' => e = .returned (.agg #[.pointer (some ⟨b, 0, none⟩), .pointer (some ⟨sc, 0, none⟩)]) ∧ JB 150 B (fun k => X k ∨ k = ob) b (xs) w' ∧
      w'.heap[ob]? = some (.cells #[.pointer (some ⟨b, 0, none⟩), .bool true, .pointer (some ⟨sc, 0, none⟩)] 203 (0, 0)) ∧ Fr (fun k => B ≤ k ∧ ¬ X k) w w' ∧ D w' := by
  have hblt := h.lt
  replace h := Aside0.mk h
  replace hD := Aside0.mk hD
  have hlt := lt_of ho
  have hb1 := below_alloc (Below.refl w.heap.size w) (.cells #[.pointer none, .pointer none] 88)
  have hu := heap_new w (.cells #[.pointer none, .pointer none] 88)
  have ho1 := heap_below hb1 ho
  have hJ1 : JB 150 B (fun k => (X k ∨ k = ob) ∨ k = w.heap.size) b xs (w.alloc (.cells #[.pointer none, .pointer none] 88)) := h.out.also hb1 (g := w.heap.size) (Nat.le_refl _) (by simp)
  have b0 := cell_at ho 0; have b1 := cell_at ho 1; have b2 := cell_at ho 2
  have y0 := free_of ho 1
  simp at b0 b1 b2
  replace ho := Aside0.mk ho; replace ho1 := Aside0.mk ho1; replace hJ1 := Aside0.mk hJ1; replace hu := Aside0.mk hu; replace hb1 := Aside0.mk hb1
  have hFs : Fr (fun k => k = ob) w (w.setCell ⟨ob, 1, none⟩ (.bool true)) := (Fr.refl (fun k => k = ob) w).setCell (p := ⟨ob, 1, none⟩) (.inl rfl) _
  have ho2 := heap_set ho.out 1 (.bool true)
  simp only [List.setIfInBounds_toArray, List.set_cons_zero, List.set_cons_succ] at ho2
  have hsz : (w.setCell ⟨ob, 1, none⟩ (.bool true)).heap.size = w.heap.size := by simp [World.setCell]
  have hJs := h.out.frX hFs (fun k e => .inr e)
  clear hu ho1 hJ1 hb1
  go_enter Tryz.func99, Tryz.ntmps99
  go_wp2_with fail
  generalize w.setCell ⟨ob, 1, none⟩ (.bool true) = w1 at *
  have hu := heap_new w1 (.cells #[.pointer none, .pointer none] 88)
  have hb1 := below_alloc (Below.refl w1.heap.size w1) (.cells #[.pointer none, .pointer none] 88)
  have hsz2 : (w1.alloc (.cells #[.pointer none, .pointer none] 88)).heap.size = w1.heap.size + 1 := by simp
  have ho3 := Aside0.mk (heap_below hb1 ho2)
  generalize w1.alloc (.cells #[.pointer none, .pointer none] 88) = w3 at *
  rw [hsz] at hu
  obtain ⟨rb, hrb⟩ : ∃ rb, w.heap.size = rb := ⟨_, rfl⟩
  have hne : ob ≠ rb := by omega
  have hne2 : ¬ rb = ob := Ne.symm hne
  have hJ3 := Aside0.mk (hJs.also hb1 (g := rb) (by omega) (by omega))
  rw [hrb] at hu ⊢
  have hu3 := Aside0.mk hu
  have hF3 : Aside0 (Fr (fun k => B ≤ k ∧ ¬ X k) w w3) := .mk ((hFs.mono (fun k _ e => by subst e; exact ⟨hBo, hXo⟩)).trans (Fr.of_below (S := fun _ => False) hb1) (fun _ _ h => h.elim))
  replace hrb := Aside0.mk hrb
  clear b0 b1 b2 y0 hJs ho2 hu hb1 hsz hsz2 hFs
  have d0 := cell_at ho3.out 0; have d2 := cell_at ho3.out 2
  simp at d0 d2
  have z0 := cell_at hu3.out 0; have z1 := cell_at hu3.out 1
  simp at z0 z1
  have f0 := free_of hu3.out 0; have f1 := free_of hu3.out 1
  go_wp2_with fail
  go_region_held3 (fun w' => w'.cell? ⟨ob, 0, none⟩ = some (.pointer (some ⟨b, 0, none⟩)) ∧ w'.cell? ⟨ob, 2, none⟩ = some (.pointer (some ⟨sc, 0, none⟩))) (simp [*, World.cell?_setCell_far]) (first | ((go_at_call 86; refine (jnewV b sc _).mono ?_; rintro e w5 ⟨rfl, hb5⟩; replace hb5 := undrew hb5; have ho5 := heap_below hb5 ho3.out; have hu5 := heap_below hb5 hu3.out; have e0 := cell_at ho5 0; have e2 := cell_at ho5 2; have v0 := cell_at hu5 0; have v1 := cell_at hu5 1; have g0 := free_of hu5 0; have g1 := free_of hu5 1; simp at e0 e2 v0 v1; replace ho5 := Aside0.mk ho5; replace hu5 := Aside0.mk hu5; replace hb5 := Aside0.mk hb5)))
  have hFe : Fr (fun k => k = rb) w5 ((w5.setCell ⟨rb, 0, none⟩ (.pointer (some ⟨b, 0, none⟩))).setCell ⟨rb, 1, none⟩ (.pointer (some ⟨sc, 0, none⟩))) := ((Fr.refl (fun k => k = rb) w5).setCell (p := ⟨rb, 0, none⟩) (.inl rfl) _).setCell (p := ⟨rb, 1, none⟩) (.inl rfl) _
  have hJ5 := (hJ3.out.calm hb5.out).frX hFe (fun k e => .inr e)
  have ho6 := hFe.heap ho5.out hne
  have hF6 := (hF3.out.trans (Fr.of_below (S := fun _ => False) hb5.out) (fun _ _ h => h.elim)).trans hFe (fun k hk e => by have := hrb.out; omega)
  have hD6 := HD.keep _ _ _ hD.out hF6
  replace hJ5 := Aside0.mk hJ5; replace ho6 := Aside0.mk ho6; replace hF6 := Aside0.mk hF6; replace hD6 := Aside0.mk hD6
  clear hFe
  go_wp2
  (try simp only [Exit.inBlock, Exit.then])
  refine bodyPost_ret (v := .agg #[.pointer (some ⟨b, 0, none⟩), .pointer (some ⟨sc, 0, none⟩)]) ?_ rfl ⟨rfl, hJ5.out.less (fun k hk => .inl hk), ho6.out, hF6.out, hD6.out⟩
  simp only [results]; go_simp
end H
end Go.Proofs.YtkihaebaccdjdaaGreatDoor
set_option linter.unusedVariables false
namespace Go.Proofs.YtkihaebaccdjdaaGreatDoor.PX
open Go.RowKit Go.Proofs.YtkihaebaccdjdaaGreatDoorW.PrintWords Go.Proofs.YtkihaebaccdjdaaGreatDoorW.PrintLast Go.Proofs.YtkihaebaccdjdaaGreatDoorW.PrintMore
/-! ### The steps of a printed region, in one line each -/
section
variable {P : Program} {md : Region.Mode} {ops : Array Oper} {Q : Exit → Act → World → Prop} {S : World → Prop} {ds : List Nat}
theorem puk (i n : Nat) {oi : Oper} {v : Value} {fuel : Nat} {l l' : Array Bool} {a a' : Act} {w : World} (h : wpAnyLast P md ops Q S ds fuel l' a' w) (hi : ops[i]? = some oi := by rfl) (hN : oi.dst = some n := by rfl)
    (hl : l.setIfInBounds i true = l' := by simp only [List.setIfInBounds_toArray, List.set_cons_zero, List.set_cons_succ]; rfl) {T : Bool × List (List Nat × List Nat)} (hT : Aside0 (rtab md ops = T) := by exact HT_) (hc : anyT T l.toList l'.toList i = true := by kernel_rfl)
    (hQ : ∀ c a w, Q (.panic c) (a.put oi.dst v) w → Q (.panic c) a w := by exact fun _ _ _ h => h) (hg : Region.wanted oi (yielded ops a.tmps) = true := by rfl)
    (hy : ∀ w, (execOp a.eval oi).run P w = .ok (.value v) w := by intro w'; go_simp; with_reducible rfl)
    (ha : a.put (some n) v = a' := by simp only [Act.put, List.setIfInBounds_toArray, List.set_cons_zero, List.set_cons_succ, i64_w, i32_w]; rfl) : wpAnyLast P md ops Q S ds (fuel + 1) l a w :=
  pure_ l' hi hN (any_of hT.out hc) hQ (.inl ⟨hg, hy⟩) ha h
theorem tak (i n : Nat) {oi : Oper} {v : Value} {fuel : Nat} {l l' : Array Bool} {a a' : Act} {w : World} (h : wpAnyLast P md ops Q S ds fuel l' a' w) (hi : ops[i]? = some oi := by rfl) (hN : oi.dst = some n := by rfl)
    (hl : l.setIfInBounds i true = l' := by simp only [List.setIfInBounds_toArray, List.set_cons_zero, List.set_cons_succ]; rfl) {T : Bool × List (List Nat × List Nat)} {B : List Nat} (hT : Aside0 (rtab md ops = T) := by exact HT_) (hB : Aside0 (waitsOk T.2 B = true) := by exact HW_) (hc : takeW T B ds l.toList l'.toList i = true := by kernel_rfl)
    (hQ : ∀ c a w, Q (.panic c) (a.put oi.dst v) w → Q (.panic c) a w := by exact fun _ _ _ h => h) (hg : Region.wanted oi (yielded ops a.tmps) = true := by rfl)
    (hy : ∀ w, S w → (execOp a.eval oi).run P w = .ok (.value v) w := by first | (intro w' _; go_simp; with_reducible rfl) | (rintro w' ⟨s0, s1, s2⟩; go_simp; with_reducible rfl) | (rintro w' ⟨s0, s1⟩; go_simp; with_reducible rfl)) (hS : S w := by exact hHeld)
    (ha : a.put (some n) v = a' := by simp only [Act.put, List.setIfInBounds_toArray, List.set_cons_zero, List.set_cons_succ, i64_w, i32_w]; rfl) : wpAnyLast P md ops Q S ds (fuel + 1) l a w :=
  take_ l' hi hN (take_ofW hT.out hB.out hc) hQ (.inl ⟨hg, hy⟩) hS ha h
theorem onk (i n : Nat) {oi : Oper} {fuel : Nat} {l l' : Array Bool} {a : Act} {w : World}
    (h : ∀ K : Act → World → Prop, Shut (∀ a' w', S w' → (S w' → wpAnyLast P md ops Q S ds fuel l' a' w') → K a' w') → if Region.wanted oi (yielded ops a.tmps) = true then Oper.wp P oi a w K Q else K (a.put (some n) undef) w)
    (hi : ops[i]? = some oi := by rfl) (hN : oi.dst = some n := by rfl) (hl : l.setIfInBounds i true = l' := by simp only [List.setIfInBounds_toArray, List.set_cons_zero, List.set_cons_succ]; rfl) {T : Bool × List (List Nat × List Nat)} (hT : Aside0 (rtab md ops = T) := by exact HT_)
    (hc : (readyT T.2 l.toList == [i] && l.toList.set i true == l'.toList) = true := by kernel_rfl) (hd : i ∉ ds := by decide) : wpAnyLast P md ops Q S ds (fuel + 1) l a w :=
  one_ l' hi hN (one_of hT.out hc) hd h
theorem nok (n : Nat) {fuel : Nat} {l : Array Bool} {a a' : Act} {v : Value} {w : World} (h : wpAnyLast P md ops Q S ds fuel l a' w) (ha : a.put (some n) v = a' := by simp only [Act.put, List.setIfInBounds_toArray, List.set_cons_zero, List.set_cons_succ, i64_w, i32_w]; rfl) : wpAnyLast P md ops Q S ds fuel l (a.put (some n) v) w :=
  norm_ ha h
end
end Go.Proofs.YtkihaebaccdjdaaGreatDoor.PX
