import Derived.Test.YtkihaebaccdjdaaGreatDoorK12
import Derived.Test.YtkihaebaccdjdaaGreatDoorK13
set_option linter.unusedVariables false
set_option linter.unusedSimpArgs false
namespace Go.Proofs.YtkihaebaccdjdaaGreatDoor
open Go.RowKit Go.Proofs.YtkihaebaccdjdaaGreatDoorW.PrintWords Go.Proofs.YtkihaebaccdjdaaGreatDoorW.PrintLast Go.Proofs.YtkihaebaccdjdaaGreatDoorW.PrintMore
namespace H
/-! ### smjson: NewEncoder, newValue -/
set_option maxHeartbeats 1000000 in
set_option maxRecDepth 100000 in
theorem jnewV (b sc : Nat) (w : World) :
    Calls Tryz.prog 86 #[.pointer (some ⟨b, 0, none⟩), .pointer (some ⟨sc, 0, none⟩)] w fun e w' => e = .returned (.agg #[.pointer (some ⟨b, 0, none⟩), .pointer (some ⟨sc, 0, none⟩)]) ∧ Below w.heap.size w w' := by
  go_enter Tryz.func86, Tryz.ntmps86
  go_wp2_with fail
  (try simp only [Exit.inBlock, Exit.then])
  refine bodyPost_ret (v := .agg #[.pointer (some ⟨b, 0, none⟩), .pointer (some ⟨sc, 0, none⟩)]) ?_ rfl ⟨rfl, ?_⟩
  · simp only [results]; go_simp
  · exact below_alloc (Below.refl _ _) _
theorem JB.made (T : TypeId) (hT : T ≠ 5) (w : World) (X : Nat → Prop) (hX : ∀ k, X k → k < w.heap.size) : JB T w.heap.size X w.heap.size [] (w.alloc (.cells #[.slice none 0 0] T)) := by
  have hs : (w.alloc (.cells #[.slice none 0 0] T)).heap.size = w.heap.size + 1 := by simp
  refine ⟨⟨.slice none 0 0, heap_new w _, World.ownsRow_nil _ _ _ _, fun k hk => by simp [Value.ownBlock] at hk⟩, Nat.le_refl _, fun e => by have := hX _ e; omega, fun k hk => by have := hX k hk; omega⟩
set_option maxHeartbeats 1000000 in
set_option maxRecDepth 100000 in
theorem jnewE (w : World) : Calls Tryz.prog 38 #[] w fun e w' => ∃ b sc eb, e = .returned (.pointer (some ⟨eb, 0, none⟩)) ∧ JB 150 w.heap.size (fun k => k = eb) b [] w' ∧ w.heap.size ≤ eb ∧
    w'.heap[eb]? = some (.cells #[.pointer (some ⟨b, 0, none⟩), .pointer (some ⟨b, 0, none⟩), .pointer (some ⟨sc, 0, none⟩)] 90 (0, 0)) ∧ Below w.heap.size w w' := by
  obtain ⟨i5, hi5, hz5⟩ := Option.map_eq_some_iff.1 inf5
  simp only [Prod.mk.injEq] at hz5
  obtain ⟨hz0, hz1, hz2⟩ := hz5
  have hmk : ∀ w : World, (Instr.makeSlice 22 (.int .i64 64) (.int .i64 64)).run Tryz.prog w = .ok (.slice (some ⟨w.heap.size, 0, none⟩) 64 64) (w.alloc (.cells (madeCells #[.int .u8 0] 64) 5)) := fun w => by
    have h := run_makeSlice (P := Tryz.prog) (w := w) 22 5 i5 (.int .u8 0) Tryz.underlying22 hi5 hz0 .i64 .i64 64 64 (by omega) (by omega) (by rw [hz1]; decide) (by rw [hz2]; decide) (by omega)
    rw [hz1] at h
    exact h
  go_enter Tryz.func38, Tryz.ntmps38
  go_wp2_with fail
  have hJ := JB.made 150 (by decide) w (fun _ => False) (fun _ h => h.elim)
  have hb0 := below_alloc (Below.refl w.heap.size w) (.cells #[.slice none 0 0] 150)
  have hb1 := below_alloc (below_alloc (Below.refl (w.alloc (.cells #[.slice none 0 0] 150)).heap.size (w.alloc (.cells #[.slice none 0 0] 150))) (.cells (madeCells #[.int .u8 0] 64) 5)) (.cells #[.slice (some ⟨w.heap.size + 1, 0, none⟩) 64 64] 22)
  have hJ1 := hJ.calm hb1
  have hB1 := below_then hb0 hb0.size hb1
  generalize ((w.alloc (.cells #[.slice none 0 0] 150)).alloc (.cells (madeCells #[.int .u8 0] 64) 5)).alloc (.cells #[.slice (some ⟨w.heap.size + 1, 0, none⟩) 64 64] 22) = w1 at *
  clear hJ hb0 hb1
  refine (jnewV w.heap.size (w.heap.size + 1 + 1) w1).mono ?_
  rintro e w2 ⟨rfl, hb2⟩
  have hJ2 := hJ1.calm hb2
  have hB2 := below_then hB1 hB1.size hb2
  go_wp2
  go_ret
  have hs := hB2.size
  have hb3 := below_alloc (Below.refl w2.heap.size w2) (.cells #[.pointer (some ⟨w.heap.size, 0, none⟩), .pointer (some ⟨w.heap.size, 0, none⟩), .pointer (some ⟨w.heap.size + 1 + 1, 0, none⟩)] 90)
  refine ⟨w.heap.size, w.heap.size + 1 + 1, w2.heap.size, rfl, ?_, hs, heap_new _ _, below_then hB2 hB2.size hb3⟩
  exact hJ2.re (fun k hk => .inr (by omega)) (fun k hk => by simp; omega) hb3
/-! ### Object, its end -/
theorem cv123 (w : World) : (convert 21 9 (.int .i32 123)).run Tryz.prog w = .ok (.string ⟨#[123]⟩) w := by kernel_rfl
theorem cv125 (w : World) : (convert 21 9 (.int .i32 125)).run Tryz.prog w = .ok (.string ⟨#[125]⟩) w := by kernel_rfl
theorem cv58 (w : World) : (convert 21 9 (.int .i32 58)).run Tryz.prog w = .ok (.string ⟨#[58]⟩) w := by kernel_rfl
theorem Wrote.calm {T : TypeId} {B b : Nat} {X : Nat → Prop} {xs : List Int} {w w1 w2 : World} (h : Wrote T B X b xs w w1) (hb : Below w1.heap.size w1 w2) : Wrote T B X b xs w w2 :=
  ⟨h.1.calm hb, h.2.trans (Fr.of_below (S := fun _ => False) hb) (fun _ _ h => h.elim)⟩
set_option maxHeartbeats 1000000 in
set_option maxRecDepth 100000 in
theorem jnewO {B b sc : Nat} {X : Nat → Prop} {xs : List Int} (w : World) (h : JB 150 B X b xs w) (hl : xs.length + 1 ≤ 140737488355328) :
    Calls Tryz.prog 157 #[.pointer (some ⟨b, 0, none⟩), .pointer (some ⟨sc, 0, none⟩)] w fun e w' => ∃ ob, e = .returned (.pointer (some ⟨ob, 0, none⟩)) ∧ Wrote 150 B X b (xs ++ [123]) w w' ∧ w.heap.size ≤ ob ∧ w'.heap[ob]? = some (.cells #[.pointer (some ⟨b, 0, none⟩), .bool false, .pointer (some ⟨sc, 0, none⟩)] 200 (0, 0)) ∧ ob + 1 = w'.heap.size := by
  replace h := Aside0.mk h
  go_enter Tryz.func157, Tryz.ntmps157
  go_wp2_with fail
  refine (jwr 123 ⟨#[123]⟩ cv123 w h.out (by show _ + 1 ≤ _; omega)).mono ?_
  rintro e w1 ⟨n, rfl, hw1⟩
  have hs := hw1.2.size
  go_wp2
  go_ret
  have hb3 := below_alloc (Below.refl w1.heap.size w1) (.cells #[.pointer (some ⟨b, 0, none⟩), .bool false, .pointer (some ⟨sc, 0, none⟩)] 200)
  exact ⟨w1.heap.size, rfl, hw1.calm hb3, hs, heap_new _ _, by simp⟩
set_option maxHeartbeats 1000000 in
set_option maxRecDepth 100000 in
theorem jobj {B b sc : Nat} {X : Nat → Prop} {xs : List Int} (w : World) (h : JB 150 B X b xs w) (hl : xs.length + 1 ≤ 140737488355328) :
    Calls Tryz.prog 95 #[.agg #[.pointer (some ⟨b, 0, none⟩), .pointer (some ⟨sc, 0, none⟩)]] w fun e w' => ∃ ob, e = .returned (.pointer (some ⟨ob, 0, none⟩)) ∧ Wrote 150 B X b (xs ++ [123]) w w' ∧ w.heap.size ≤ ob ∧ w'.heap[ob]? = some (.cells #[.pointer (some ⟨b, 0, none⟩), .bool false, .pointer (some ⟨sc, 0, none⟩)] 200 (0, 0)) ∧ ob + 1 = w'.heap.size := by
  replace h := Aside0.mk h
  go_enter Tryz.func95, Tryz.ntmps95
  go_wp2_with fail
  have hb := below_alloc (Below.refl w.heap.size w) (.cells #[.pointer (some ⟨b, 0, none⟩), .pointer (some ⟨sc, 0, none⟩)] 88)
  refine (jnewO (sc := sc) _ (h.out.calm hb) hl).mono ?_
  rintro e w1 ⟨ob, rfl, hw1, h1, h2, h3⟩
  go_wp2
  go_ret
  exact ⟨ob, rfl, ⟨hw1.1, (Fr.of_below (S := fun k => B ≤ k ∧ ¬ X k) hb).trans hw1.2 (fun _ _ h => h)⟩, by have := hb.size; omega, h2, h3⟩
set_option maxHeartbeats 1000000 in
set_option maxRecDepth 100000 in
theorem jclose {B b ob : Nat} {X : Nat → Prop} {xs : List Int} {v1 v2 : Value} (w : World) (h : JB 150 B X b xs w) (ho : w.cell? ⟨ob, 0, none⟩ = some (.pointer (some ⟨b, 0, none⟩))) (hl : xs.length + 1 ≤ 140737488355328) :
    Calls Tryz.prog 97 #[.pointer (some ⟨ob, 0, none⟩)] w fun e w' => e = .returned (.tuple #[]) ∧ Wrote 150 B X b (xs ++ [125]) w w' := by
  replace h := Aside0.mk h
  go_enter Tryz.func97, Tryz.ntmps97
  go_wp2_with fail
  refine (jwr 125 ⟨#[125]⟩ cv125 w h.out (by show _ + 1 ≤ _; omega)).mono ?_
  rintro e w1 ⟨n, rfl, hw1⟩
  go_wp2
  refine bodyPost_end (results_none rfl _ _ _) rfl ?_
  exact ⟨rfl, hw1⟩
set_option maxHeartbeats 1000000 in
set_option maxRecDepth 100000 in
theorem jtold {B b : Nat} {X : Nat → Prop} {xs : List Int} {v1 v2 : Option Addr} (w : World) (h : JB 150 B X b xs w) :
    Calls Tryz.prog 40 #[.agg #[.pointer (some ⟨b, 0, none⟩), .pointer v1, .pointer v2]] w fun e w' => e = .returned (.string (strOfNums xs)) ∧ Below w.heap.size w w' := by
  replace h := Aside0.mk h
  go_enter Tryz.func40, Tryz.ntmps40
  go_wp2_with fail
  have hb := below_alloc (Below.refl w.heap.size w) (.cells #[.pointer (some ⟨b, 0, none⟩), .pointer v1, .pointer v2] 90)
  refine (jstr _ (h.out.calm hb)).mono ?_
  rintro e w1 ⟨rfl, rfl⟩
  go_wp2
  go_ret
  exact ⟨rfl, hb⟩
end H
end Go.Proofs.YtkihaebaccdjdaaGreatDoor
