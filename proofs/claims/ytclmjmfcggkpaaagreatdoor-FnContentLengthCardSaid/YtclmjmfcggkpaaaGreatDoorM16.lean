import Derived.Test.YtclmjmfcggkpaaaGreatDoorM11
import Derived.Test.YtclmjmfcggkpaaaGreatDoorM15
namespace Go.Proofs.YtclmjmfcggkpaaaGreatDoor
open Go.RowKit Go.Proofs.YtclmjmfcggkpaaaGreatDoorW.PrintWords Go.Proofs.YtclmjmfcggkpaaaGreatDoorW.PrintLast Go.Proofs.YtclmjmfcggkpaaaGreatDoorW.PrintMore
namespace H
/-! ### A strings.Builder that has been used -/
/-- The builder at block b, used, holds the bytes xs; its row lies from b on. -/
def SB (w : World) (b : Nat) (xs : List Int) : Prop := Lib.BuilderAt 172 5 b b (.pointer (some ⟨b, 0, none⟩)) (nums .u8 xs) w
theorem SB.lt {w : World} {b : Nat} {xs : List Int} (h : SB w b xs) : b < w.heap.size := Lib.BuilderAt.lt h
theorem SB.below {w w' : World} {b : Nat} {xs : List Int} (h : SB w b xs) (hb : Below w.heap.size w w') : SB w' b xs := by
  obtain ⟨h0, v, h1, h2, h3⟩ := h
  exact ⟨h0, v, (hb.block b (lt_of h1)).trans h1, pw_own_below h2 hb, h3⟩
set_option maxHeartbeats 400000 in
set_option maxRecDepth 100000 in
theorem cc_used (b : Nat) (w : World) (hc : w.cell? ⟨b, 0, none⟩ = some (.pointer (some ⟨b, 0, none⟩))) :
    Calls Tryz.prog 150 #[.pointer (some ⟨b, 0, none⟩)] w fun e w' => e = .returned (.tuple #[]) ∧ w = w' := by
  obtain ⟨j, hj⟩ := Option.isSome_iff_exists.1 (show (Tryz.prog.info? 172).isSome = true by kernel_rfl)
  go_enter Tryz.func150, Tryz.ntmps150
  go_wp2
  rw [Lib.run_neq_ptr_same w _ Tryz.underlying170 hj]
  go_wp2
  go_end0
  exact ⟨rfl, rfl⟩
set_option maxHeartbeats 400000 in
set_option maxRecDepth 100000 in
theorem sbWB (b : Nat) (xs : List Int) (c : Int) (w : World) (hB : SB w b xs) (hl : xs.length + 1 ≤ 140737488355328) :
    Calls Tryz.prog 128 #[.pointer (some ⟨b, 0, none⟩), .int .u8 c] w fun e w' => e = .returned .nilIface ∧ SB w' b (xs ++ [c]) ∧ Below b w w' := by
  obtain ⟨_, v, hb, ho, hne⟩ := hB
  rw [nums_length] at ho
  have hc := cell_at hb 1
  have hc0 := cell_at hb 0
  simp only [List.getElem?_toArray, List.getElem?_cons_zero, List.getElem?_cons_succ] at hc hc0
  have hlt : b < w.heap.size := lt_of hb
  have Hb := Aside0.mk hb; clear hb
  have Ho := Aside0.mk ho; clear ho
  have Hne := Aside0.mk hne; clear hne
  go_enter Tryz.func128, Tryz.ntmps128
  go_wp2_with (first | (go_at_call 150; refine (cc_used b _ hc0).mono ?_; rintro e w' ⟨rfl, rfl⟩) | (at_builtin; refine print_append_num (w0 := w) b rfl (.tmp 11) (.tmp 13) 104 5 .u8 1 rfl Tryz.underlying104 inf5 (by omega) v xs c rfl rfl Ho.out (Below.refl _ _) (by omega) (by omega) ?_; intro v1 w1 ho1 hb1 hg1 hat1; obtain ⟨A1, c1, rfl⟩ := own_slice ho1; have hB1 := hg1.block b (by omega) (fun e => Hne.out e.symm); rw [Hb.out] at hB1; have hc1 := cell_at hB1 1; have hf1 := free_of hB1 1; simp only [List.getElem?_toArray, List.getElem?_cons_zero, List.getElem?_cons_succ] at hc1; have HN1 := Aside0.mk (show (Value.slice A1 (xs ++ [c]).length c1).ownBlock ≠ some b from by rcases hat1 with h | ⟨q, h, hq⟩; (rw [h]; exact Hne.out); (rw [h]; intro e; injection e with e; omega)); have HB1 := Aside0.mk hB1; have HO1 := Aside0.mk ho1; clear hB1 ho1 hg1 hat1))
  go_ret
  refine ⟨rfl, ⟨Nat.le_refl _, _, by simpa using heap_set HB1.out 1 _, ?_, ?_⟩, Below.setCell (B := b) (p := ⟨b, 1, none⟩) hb1 (Nat.le_refl _) _⟩
  · rw [nums_length]; simpa using own_set (p := ⟨b, 1, none⟩) HO1.out (fun k hk => fun e => HN1.out (by rw [hk]; exact congrArg some e)) _
  · simpa using HN1.out
end H
end Go.Proofs.YtclmjmfcggkpaaaGreatDoor
