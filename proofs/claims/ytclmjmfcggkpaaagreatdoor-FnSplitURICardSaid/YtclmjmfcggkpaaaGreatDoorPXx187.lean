-- printed by this session's own program over the kit's print.py; Lean checks it
import Derived.Test.YtclmjmfcggkpaaaGreatDoorPXx0
import Derived.Test.YtclmjmfcggkpaaaGreatDoorPXx1
namespace Go.Proofs.YtclmjmfcggkpaaaGreatDoor.PX
open Go.RowKit Go.Proofs.YtclmjmfcggkpaaaGreatDoorW.PrintWords Go.Proofs.YtclmjmfcggkpaaaGreatDoorW.PrintLast Go.Proofs.YtclmjmfcggkpaaaGreatDoorW.PrintMore
attribute [local go_sem] max2_int min2_int max_two min_two max_three min_three max_four min_four   -- for this text's walks alone
set_option linter.unusedVariables false
set_option linter.unusedSimpArgs false

/-! ### spec_ErrorCode: function 31 -/
def spec_ErrorCode.f (k : Nat) (a0 : ByteArray) : Option (ByteArray) := (spec_cut.f k a0 58).bind fun bt409 => ((spec_cut.f k bt409.1 35).bind fun bt412 => (if bt412.2.2 = true then (some bt412.2.1) else (some bt409.1)))
theorem spec_ErrorCode.mono : ∀ a0 k, LeO (spec_ErrorCode.f k a0) (spec_ErrorCode.f (k + 1) a0) := by
  intro a0 k
  unfold spec_ErrorCode.f
  repeat' first
      | (with_reducible exact spec_cut.mono _ _ _)
      | (with_reducible exact LeO.refl _)
      | (with_reducible exact LeO.none _)
      | (with_reducible refine LeO.ite ?_ ?_)
      | (with_reducible refine LeO.bind ?_ (fun _ => ?_))
      | exact spec_cut.mono _ _ _
      | exact LeO.none _
      | refine LeO.ite ?_ ?_
      | refine LeO.bind ?_ (fun _ => ?_)
set_option maxHeartbeats 8000000 in
set_option maxRecDepth 100000 in
theorem spec_ErrorCode.calls (k : Nat) (a0 : ByteArray) (r : ByteArray) (w : World) (h : spec_ErrorCode.f k a0 = some r) :
    Calls Tryz.prog 31 #[.string a0] w fun e w' => e = .returned (.string r) ∧ Drawn0 w w' := by
  have H : ((spec_cut.f k a0 58).bind fun bt409 => ((spec_cut.f k bt409.1 35).bind fun bt412 => (if bt412.2.2 = true then (some bt412.2.1) else (some bt409.1)))) = some r := h
  clear h
  replace H := Option.bind_eq_some_iff.mp H
  obtain ⟨⟨t409, t410, t411⟩, A20, H⟩ := H
  replace H : ((spec_cut.f k t409 35).bind fun bt412 => (if bt412.2.2 = true then (some bt412.2.1) else (some t409))) = some r := H
  have A2 := Aside0.mk A20
  clear A20
  replace H := Option.bind_eq_some_iff.mp H
  obtain ⟨⟨t412, t413, t414⟩, A30, H⟩ := H
  replace H : (if t414 = true then (some t413) else (some t409)) = some r := H
  have A3 := Aside0.mk A30
  clear A30
  by_cases c4 : t414 = true
  · subst c4
    have H1 : (some t413) = some r := by rw [if_pos rfl] at H; exact H
    clear H
    have H := H1
    clear H1
    obtain rfl := Option.some.inj H
    go_enter Tryz.func31, Tryz.ntmps31
    go_wp2_with (first | ((with_reducible refine gate_callee (f := 53) rfl ?_); refine goesL_ (some 8) rfl rfl Tryz.func53 (by kernel_rfl) rfl #[.string a0, .int .u8 58] rfl (by (try simp only [List.map_toArray, List.map_cons, List.map_nil]); first | done | rfl | (simp only [List.length_drop, List.length_take]; rfl)) ?_; (with_reducible refine (spec_cut.calls k a0 58 t409 t410 t411 _ A2.out).mono ?_); rintro e w' ⟨rfl, ⟨nd, rfl⟩⟩; refine ⟨_, rfl, ?_⟩) | ((with_reducible refine gate_callee (f := 53) rfl ?_); refine goesL_ (some 14) rfl rfl Tryz.func53 (by kernel_rfl) rfl #[.string t409, .int .u8 35] rfl (by (try simp only [List.map_toArray, List.map_cons, List.map_nil]); first | done | rfl | (simp only [List.length_drop, List.length_take]; rfl)) ?_; (with_reducible refine (spec_cut.calls k t409 35 t412 t413 true _ A3.out).mono ?_); rintro e w' ⟨rfl, ⟨nd, rfl⟩⟩; refine ⟨_, rfl, ?_⟩))
    go_ret
    exact ⟨by first | rfl | (simp; done) | (simp [*]; done), by repeat (first | exact Drawn0.refl _ | apply Drawn0.step)⟩
  · replace c4 := Bool.eq_false_iff.mpr c4
    subst c4
    have H1 : (some t409) = some r := by rw [if_neg (show ¬ (false = true) by decide)] at H; exact H
    clear H
    have H := H1
    clear H1
    obtain rfl := Option.some.inj H
    go_enter Tryz.func31, Tryz.ntmps31
    go_wp2_with (first | ((with_reducible refine gate_callee (f := 53) rfl ?_); refine goesL_ (some 8) rfl rfl Tryz.func53 (by kernel_rfl) rfl #[.string a0, .int .u8 58] rfl (by (try simp only [List.map_toArray, List.map_cons, List.map_nil]); first | done | rfl | (simp only [List.length_drop, List.length_take]; rfl)) ?_; (with_reducible refine (spec_cut.calls k a0 58 t409 t410 t411 _ A2.out).mono ?_); rintro e w' ⟨rfl, ⟨nd, rfl⟩⟩; refine ⟨_, rfl, ?_⟩) | ((with_reducible refine gate_callee (f := 53) rfl ?_); refine goesL_ (some 14) rfl rfl Tryz.func53 (by kernel_rfl) rfl #[.string t409, .int .u8 35] rfl (by (try simp only [List.map_toArray, List.map_cons, List.map_nil]); first | done | rfl | (simp only [List.length_drop, List.length_take]; rfl)) ?_; (with_reducible refine (spec_cut.calls k t409 35 t412 t413 false _ A3.out).mono ?_); rintro e w' ⟨rfl, ⟨nd, rfl⟩⟩; refine ⟨_, rfl, ?_⟩))
    go_ret
    exact ⟨by first | rfl | (simp; done) | (simp [*]; done), by repeat (first | exact Drawn0.refl _ | apply Drawn0.step)⟩

end Go.Proofs.YtclmjmfcggkpaaaGreatDoor.PX
