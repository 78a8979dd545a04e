import Derived.Test.YtclmjmfcggkpaaaGreatDoorHBd
import Derived.Test.YtclmjmfcggkpaaaGreatDoorPD
set_option linter.unusedVariables false
set_option linter.unusedSimpArgs false
namespace Go.Proofs.YtclmjmfcggkpaaaGreatDoor
open Go.RowKit Go.Proofs.YtclmjmfcggkpaaaGreatDoorW.PrintWords Go.Proofs.YtclmjmfcggkpaaaGreatDoorW.PrintLast Go.Proofs.YtclmjmfcggkpaaaGreatDoorW.PrintMore
open PX
namespace H
theorem unresS_eq (c : Int) : spec_isUnreserved.f c = some (unres c) := by
  unfold spec_isUnreserved.f unres
  repeat' split
  all_goals (congr 1; rw [Bool.eq_iff_iff]; simp; try omega)
theorem bigDigit_eq (n : Int) (h0 : 0 ≤ n) (h1 : n < 16) : spec_bigDigit.f n = some (hexd n) := by
  have : ∀ m : Nat, m < 16 → spec_bigDigit.f (m : Int) = some (hexd (m : Int)) := by decide +kernel
  obtain ⟨m, rfl⟩ := Int.eq_ofNat_of_zero_le h0
  exact this m (by omega)
theorem escaped_eq (s : ByteArray) (sl : Bool) (hs : 3 * s.size ≤ 140737488355328) : ∀ (n k : Nat), n = s.size - k → k ≤ s.size → ∀ F, 2 * n + 1 ≤ F →
    spec_Escaped.l0 F s sl (escB sl ((bytesOf s).take k)) (s.size : Int) (k : Int) = some (strOfNums (escB sl (bytesOf s))) := by
  intro n
  induction n with
  | zero =>
    intro k hn hk F hF
    obtain rfl : k = s.size := by omega
    cases F with
    | zero => omega
    | succ F =>
      simp only [spec_Escaped.l0]
      rw [if_neg (by omega)]
      rw [List.take_of_length_le (by rw [bytesOf_length]; exact Nat.le_refl _)]
  | succ n ih =>
    intro k hn hk F hF
    have hlt : k < s.size := by omega
    have hr := bt_range s (k : Int)
    have hlen := escB_len sl ((bytesOf s).take k)
    have htk : ((bytesOf s).take k).length ≤ k := List.length_take_le _ _
    have hsn := escB_snoc sl ((bytesOf s).take k) (bt s k)
    rw [← bytes_take s k hlt] at hsn
    have hwr : wrap64 ((k : Int) + 1) = ((k + 1 : Nat) : Int) := by unfold wrap64; omega
    match F, hF with
    | F + 2, hF =>
      have IH := ih (k + 1) (by omega) (by omega) F (by omega)
      rw [hsn] at IH
      rw [spec_Escaped.l0, if_pos (by omega), if_pos (by omega), if_pos (by omega), unresS_eq]
      simp only [Option.bind_some]
      unfold esc1 at IH
      by_cases hu : unres (bt s k) = true
      · rw [if_pos hu, spec_Escaped.j1, if_pos rfl, if_pos (by omega), hwr]
        rw [if_pos (by simp [hu])] at IH
        exact IH
      · rw [if_neg hu]
        by_cases hsl : sl = true
        · rw [if_pos hsl]
          by_cases h47 : bt s k = 47
          · rw [h47] at IH ⊢
            rw [spec_Escaped.j1, if_pos (by rfl), if_pos (by omega), hwr]
            rw [if_pos (by simp [hsl])] at IH
            exact IH
          · rw [spec_Escaped.j1, if_neg (by simp [h47]), bigDigit_eq _ (by omega) (by omega), and15 _ hr.1 hr.2, bigDigit_eq _ (by omega) (by omega)]
            rw [if_neg (by simp [h47, hu])] at IH
            simp only [Option.bind_some]
            rw [if_pos (by simp; omega), hwr]
            exact IH
        · rw [if_neg hsl, spec_Escaped.j1, if_neg (by simp), bigDigit_eq _ (by omega) (by omega), and15 _ hr.1 hr.2, bigDigit_eq _ (by omega) (by omega)]
          rw [if_neg (by simp [hsl, hu])] at IH
          simp only [Option.bind_some]
          rw [if_pos (by simp; omega), hwr]
          exact IH
theorem escapedS_call (s : ByteArray) (sl : Bool) (w : World) (hs : 3 * s.size ≤ 140737488355328) :
    Calls Tryz.prog 29 #[.string s, .bool sl] w fun e w' => e = .returned (.string (strOfNums (escB sl (bytesOf s)))) ∧ Below w.heap.size w w' :=
  spec_Escaped.calls (2 * s.size + 1) s sl _ w (by have := escaped_eq s sl hs s.size 0 (by omega) (by omega) _ (Nat.le_refl _); simpa [spec_Escaped.f, escB] using this)
set_option maxHeartbeats 400000 in
set_option maxRecDepth 100000 in
theorem fnEscapePath (s : ByteArray) (sep : Bool) (w : World) (hT : Tab w) :
    Calls Tryz.prog 5 #[.string s, .bool sep] w fun e w' => e = .returned (.bool true) ∧ Below w.heap.size w w' := by
  replace hT := Aside0.mk hT
  go_enter Tryz.func5, Tryz.ntmps5
  go_wp2_with fail
  · go_ret
    exact ⟨rfl, Below.refl _ _⟩
  · refine (works_call w hT.out).mono ?_
    rintro e w1 ⟨rfl, hb⟩
    go_wp2
    go_ret
    exact ⟨rfl, hb⟩
  · refine (works_call w hT.out).mono ?_
    rintro e w1 ⟨rfl, hb1⟩
    go_wp2_with fail
    refine (ipath_call s sep w1 (by omega)).mono ?_
    rintro e w2 ⟨rfl, hb2⟩
    go_wp2_with fail
    refine (escapedS_call s (!sep) w2 (by omega)).mono ?_
    rintro e w3 ⟨rfl, hb3⟩
    go_wp2
    go_ret
    refine ⟨by simp, ?_⟩
    have h2 := below_then hb1 hb1.size hb2
    exact below_then h2 h2.size hb3
end H
end Go.Proofs.YtclmjmfcggkpaaaGreatDoor
