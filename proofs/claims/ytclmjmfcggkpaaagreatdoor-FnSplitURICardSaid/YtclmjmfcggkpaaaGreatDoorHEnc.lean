import Derived.Test.YtclmjmfcggkpaaaGreatDoorHEp
import Derived.WalkSpells
namespace Go.Proofs.YtclmjmfcggkpaaaGreatDoor
open Go.RowKit Go.Proofs.YtclmjmfcggkpaaaGreatDoorW.PrintWords Go.Proofs.YtclmjmfcggkpaaaGreatDoorW.PrintLast Go.Proofs.YtclmjmfcggkpaaaGreatDoorW.PrintMore
namespace H
/-- A range over an empty map ends at once. -/
theorem next_empty (w : World) (ty : TypeId) (bm since c0 clock : Nat) (hb : w.heap[bm]? = some (.map #[] clock)) (hsc : since ≤ c0) :
    (Instr.next (.pointer (some ⟨w.heap.size, 0, none⟩)) false ty).run Tryz.prog (w.alloc (.mapIter (some bm) since #[] c0)) = .ok (.tuple #[.bool false]) (w.alloc (.mapIter (some bm) since #[] c0)) := by
  rcases run_next_map (P := Tryz.prog) w ty bm since c0 #[] #[] clock hb (by simp) hsc with h | ⟨e, he, _⟩
  · exact h.2
  · simp [leftOf] at he
set_option maxHeartbeats 400000 in
set_option maxRecDepth 100000 in
theorem pq_call (w : World) :
    Calls Tryz.prog 98 #[.string ⟨#[]⟩] w fun e w' => e = .returned (.tuple #[.map (some w.heap.size), .nilIface]) ∧ w'.heap[w.heap.size]? = some (.map #[] 0) ∧ Below w.heap.size w w' := by
  have hmm := @run_makeMap Tryz.prog
  go_enter Tryz.func98, Tryz.ntmps98
  go_wp2
  refine wp_loop_rounds 1 ?_
  rw [rounds_succ]
  go_wp2
  refine wp_loop_rounds 1 ?_
  rw [rounds_succ]
  go_wp2
  go_ret2
  exact ⟨rfl, heap_new w _, below_alloc (Below.refl _ _) _⟩
set_option maxHeartbeats 400000 in
set_option maxRecDepth 100000 in
theorem clone_nil (m : Nat) (w : World) (hm : w.heap[m]? = some (.map #[] 0)) :
    Calls Tryz.prog 99 #[.map (some m)] w fun e w' => e = .returned (.map (some w.heap.size)) ∧ w'.heap[w.heap.size]? = some (.map #[] 0) ∧ Below w.heap.size w w' := by
  have hmm := @run_makeMap Tryz.prog
  have hq := run_eql_map_nil (P := Tryz.prog) w 76 _ _ (some m) Tryz.underlying76
  have hr := run_range_map (P := Tryz.prog) (w.alloc (.map #[] 0)) 76 _ _ m #[] 0 Tryz.underlying76 (heap_old hm _)
  have hn := fun ty => next_empty (w.alloc (.map #[] 0)) ty m 0 0 0 (heap_old hm _) (Nat.le_refl _)
  simp only [World.size_alloc] at hr hn
  go_enter Tryz.func99, Tryz.ntmps99
  go_wp2
  refine wp_loop_rounds 1 ?_
  rw [rounds_succ]
  go_wp2
  go_ret
  exact ⟨rfl, heap_old (heap_new w _) _, below_alloc (below_alloc (Below.refl _ _) _) _⟩
end H
end Go.Proofs.YtclmjmfcggkpaaaGreatDoor
