-- printed by this session's own program over the kit's print.py; Lean checks it
import Derived.Test.YtclmjmfcggkpaaaGreatDoorPXx0
import Derived.Test.YtclmjmfcggkpaaaGreatDoorHIdx
namespace Go.Proofs.YtclmjmfcggkpaaaGreatDoor.PX
open Go.RowKit Go.Proofs.YtclmjmfcggkpaaaGreatDoorW.PrintWords Go.Proofs.YtclmjmfcggkpaaaGreatDoorW.PrintLast Go.Proofs.YtclmjmfcggkpaaaGreatDoorW.PrintMore
attribute [local go_sem] max2_int min2_int max_two min_two max_three min_three max_four min_four   -- for this text's walks alone
set_option linter.unusedVariables false
set_option linter.unusedSimpArgs false

/-! ### smhttp_SplitURI: function 60 -/
def smhttp_SplitURI.f (a0 : ByteArray) : Option (ByteArray × ByteArray) := (strings_IndexByte.f a0 63).bind fun t419 => (if t419 = (-1) then (some (a0, (⟨#[]⟩ : ByteArray))) else (if 0 ≤ t419 then (if t419 ≤ (a0.size : Int) then (if (wrap64 (t419 + 1)) ≥ (a0.size : Int) then (some (a0.extract 0 (t419 : Int).toNat, (⟨#[]⟩ : ByteArray))) else (if 0 ≤ (wrap64 (t419 + 1)) then (if (wrap64 (t419 + 1)) ≤ (a0.size : Int) then (some (a0.extract 0 (t419 : Int).toNat, a0.extract ((wrap64 (t419 + 1)) : Int).toNat a0.size)) else (none)) else (none))) else (none)) else (none)))
set_option maxHeartbeats 8000000 in
set_option maxRecDepth 100000 in
theorem smhttp_SplitURI.calls (a0 : ByteArray) (r1 : ByteArray) (r2 : ByteArray) (w : World) (h : smhttp_SplitURI.f a0 = some (r1, r2)) :
    Calls Tryz.prog 60 #[.string a0] w fun e w' => e = .returned (.tuple #[.string r1, .string r2]) ∧ Drawn0 w w' := by
  have H : ((strings_IndexByte.f a0 63).bind fun t419 => (if t419 = (-1) then (some (a0, (⟨#[]⟩ : ByteArray))) else (if 0 ≤ t419 then (if t419 ≤ (a0.size : Int) then (if (wrap64 (t419 + 1)) ≥ (a0.size : Int) then (some (a0.extract 0 (t419 : Int).toNat, (⟨#[]⟩ : ByteArray))) else (if 0 ≤ (wrap64 (t419 + 1)) then (if (wrap64 (t419 + 1)) ≤ (a0.size : Int) then (some (a0.extract 0 (t419 : Int).toNat, a0.extract ((wrap64 (t419 + 1)) : Int).toNat a0.size)) else (none)) else (none))) else (none)) else (none)))) = some (r1, r2) := h
  clear h
  replace H := Option.bind_eq_some_iff.mp H
  obtain ⟨t419, A20, H⟩ := H
  replace H : (if t419 = (-1) then (some (a0, (⟨#[]⟩ : ByteArray))) else (if 0 ≤ t419 then (if t419 ≤ (a0.size : Int) then (if (wrap64 (t419 + 1)) ≥ (a0.size : Int) then (some (a0.extract 0 (t419 : Int).toNat, (⟨#[]⟩ : ByteArray))) else (if 0 ≤ (wrap64 (t419 + 1)) then (if (wrap64 (t419 + 1)) ≤ (a0.size : Int) then (some (a0.extract 0 (t419 : Int).toNat, a0.extract ((wrap64 (t419 + 1)) : Int).toNat a0.size)) else (none)) else (none))) else (none)) else (none))) = some (r1, r2) := H
  have A2 := Aside0.mk A20
  clear A20
  by_cases c3 : t419 = (-1)
  · rw [if_pos c3] at H
    have c3b0 : (t419 == (-1)) = true := beq_iff_eq.mpr c3
    have c3b1 : (t419 != (-1)) = false := bne_eq_false_iff_eq.mpr c3
    clear c3
    simp only [Option.some.injEq, Prod.mk.injEq] at H
    obtain ⟨rfl, rfl⟩ := H
    go_enter Tryz.func60, Tryz.ntmps60
    go_wp2_with (first | ((with_reducible refine gate_callee (f := 96) rfl ?_); refine goesL_ (some 6) rfl rfl Tryz.func96 (by kernel_rfl) rfl #[.string a0, .int .u8 63] rfl (by (try simp only [List.map_toArray, List.map_cons, List.map_nil]); first | done | rfl | (simp only [List.length_drop, List.length_take]; rfl)) ?_; (with_reducible refine (strings_IndexByte.calls a0 63 t419 _ A2.out).mono ?_); rintro e w' ⟨rfl, ⟨nd, rfl⟩⟩; refine ⟨_, rfl, ?_⟩))
    go_ret2
    exact ⟨by first | rfl | (simp; done) | (simp [*]; done), by repeat (first | exact Drawn0.refl _ | apply Drawn0.step)⟩
  · rw [if_neg c3] at H
    have c3b0 : (t419 == (-1)) = false := beq_eq_false_iff_ne.mpr c3
    have c3b1 : (t419 != (-1)) = true := bne_iff_ne.mpr c3
    by_cases c4 : 0 ≤ t419
    · rw [if_pos c4] at H
      have c4b0 := eq_true c4
      have c4b1 : decide (0 ≤ t419) = true := decide_eq_true c4
      clear c4
      by_cases c5 : t419 ≤ (a0.size : Int)
      · rw [if_pos c5] at H
        have c5b0 := eq_true c5
        have c5b1 : decide (t419 ≤ (a0.size : Int)) = true := decide_eq_true c5
        clear c5
        by_cases c6 : (wrap64 (t419 + 1)) ≥ (a0.size : Int)
        · rw [if_pos c6] at H
          have c6b0 : decide ((a0.size : Int) ≤ (wrap64 (t419 + 1))) = true := decide_eq_true c6
          clear c6
          simp only [Option.some.injEq, Prod.mk.injEq] at H
          obtain ⟨rfl, rfl⟩ := H
          go_enter Tryz.func60, Tryz.ntmps60
          go_wp2_with (first | ((with_reducible refine gate_callee (f := 96) rfl ?_); refine goesL_ (some 6) rfl rfl Tryz.func96 (by kernel_rfl) rfl #[.string a0, .int .u8 63] rfl (by (try simp only [List.map_toArray, List.map_cons, List.map_nil]); first | done | rfl | (simp only [List.length_drop, List.length_take]; rfl)) ?_; (with_reducible refine (strings_IndexByte.calls a0 63 t419 _ A2.out).mono ?_); rintro e w' ⟨rfl, ⟨nd, rfl⟩⟩; refine ⟨_, rfl, ?_⟩))
          go_ret2
          exact ⟨by first | rfl | (simp; done) | (simp [*]; done), by repeat (first | exact Drawn0.refl _ | apply Drawn0.step)⟩
        · rw [if_neg c6] at H
          have c6b0 : decide ((a0.size : Int) ≤ (wrap64 (t419 + 1))) = false := decide_eq_false c6
          clear c6
          obtain ⟨ji7, hji7⟩ : ∃ j_ : Int, (wrap64 (t419 + 1)) = j_ := ⟨_, rfl⟩
          replace H : (if 0 ≤ (ji7) then (if (ji7) ≤ (a0.size : Int) then (some (a0.extract 0 (t419 : Int).toNat, a0.extract ((ji7) : Int).toNat a0.size)) else (none)) else (none)) = some (r1, r2) := by first | (rw [hji7] at H; exact H) | (simp only [hji7] at H ⊢; exact H)
          (try rw [hji7] at c6b0)
          (try rw [hji7] at A2)
          have hji7w : (IntKind.i64.wrap (t419 + 1)) = ji7 := (i64_w _).trans hji7
          by_cases c8 : 0 ≤ (ji7)
          · rw [if_pos c8] at H
            have c8b0 := eq_true c8
            have c8b1 : decide (0 ≤ (ji7)) = true := decide_eq_true c8
            clear c8
            by_cases c9 : (ji7) ≤ (a0.size : Int)
            · rw [if_pos c9] at H
              have c9b0 := eq_true c9
              have c9b1 : decide ((ji7) ≤ (a0.size : Int)) = true := decide_eq_true c9
              clear c9
              simp only [Option.some.injEq, Prod.mk.injEq] at H
              obtain ⟨rfl, rfl⟩ := H
              go_enter Tryz.func60, Tryz.ntmps60
              go_wp2_with (first | ((with_reducible refine gate_callee (f := 96) rfl ?_); refine goesL_ (some 6) rfl rfl Tryz.func96 (by kernel_rfl) rfl #[.string a0, .int .u8 63] rfl (by (try simp only [List.map_toArray, List.map_cons, List.map_nil]); first | done | rfl | (simp only [List.length_drop, List.length_take]; rfl)) ?_; (with_reducible refine (strings_IndexByte.calls a0 63 t419 _ A2.out).mono ?_); rintro e w' ⟨rfl, ⟨nd, rfl⟩⟩; refine ⟨_, rfl, ?_⟩))
              go_ret2
              exact ⟨by first | rfl | (simp; done) | (simp only [← hji7] <;> (first | rfl | simp)) | (simp [*]; done), by repeat (first | exact Drawn0.refl _ | apply Drawn0.step)⟩
            · rw [if_neg c9] at H
              exact absurd H (by simp)
          · rw [if_neg c8] at H
            exact absurd H (by simp)
      · rw [if_neg c5] at H
        exact absurd H (by simp)
    · rw [if_neg c4] at H
      exact absurd H (by simp)

end Go.Proofs.YtclmjmfcggkpaaaGreatDoor.PX
