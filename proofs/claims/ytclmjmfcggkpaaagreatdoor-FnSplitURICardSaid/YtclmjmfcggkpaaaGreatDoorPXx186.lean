-- printed by this session's own program over the kit's print.py; Lean checks it
import Derived.Test.YtclmjmfcggkpaaaGreatDoorPXx0
import Derived.Test.YtclmjmfcggkpaaaGreatDoorPXx185
namespace Go.Proofs.YtclmjmfcggkpaaaGreatDoor.PX
open Go.RowKit Go.Proofs.YtclmjmfcggkpaaaGreatDoorW.PrintWords Go.Proofs.YtclmjmfcggkpaaaGreatDoorW.PrintLast Go.Proofs.YtclmjmfcggkpaaaGreatDoorW.PrintMore
attribute [local go_sem] max2_int min2_int max_two min_two max_three min_three max_four min_four   -- for this text's walks alone
set_option linter.unusedVariables false
set_option linter.unusedSimpArgs false

/-! ### impl_ErrorCode: function 30 -/
def impl_ErrorCode.f (k : Nat) (a0 : ByteArray) : Option (ByteArray) := (awsrestjson_SanitizeErrorCode.f k a0).bind fun t408 => (some t408)
theorem impl_ErrorCode.mono : ∀ a0 k, LeO (impl_ErrorCode.f k a0) (impl_ErrorCode.f (k + 1) a0) := by
  intro a0 k
  unfold impl_ErrorCode.f
  repeat' first
      | (with_reducible exact awsrestjson_SanitizeErrorCode.mono _ _)
      | (with_reducible exact LeO.refl _)
      | (with_reducible exact LeO.none _)
      | (with_reducible refine LeO.ite ?_ ?_)
      | (with_reducible refine LeO.bind ?_ (fun _ => ?_))
      | exact awsrestjson_SanitizeErrorCode.mono _ _
      | exact LeO.none _
      | refine LeO.ite ?_ ?_
      | refine LeO.bind ?_ (fun _ => ?_)
set_option maxHeartbeats 8000000 in
set_option maxRecDepth 100000 in
theorem impl_ErrorCode.calls (k : Nat) (a0 : ByteArray) (r : ByteArray) (w : World) (h : impl_ErrorCode.f k a0 = some r) :
    Calls Tryz.prog 30 #[.string a0] w fun e w' => e = .returned (.string r) ∧ Drawn0 w w' := by
  have H : ((awsrestjson_SanitizeErrorCode.f k a0).bind fun t408 => (some t408)) = some r := h
  clear h
  replace H := Option.bind_eq_some_iff.mp H
  obtain ⟨t408, A20, H⟩ := H
  replace H : (some t408) = some r := H
  have A2 := Aside0.mk A20
  clear A20
  obtain rfl := Option.some.inj H
  go_enter Tryz.func30, Tryz.ntmps30
  go_wp2_with (first | ((with_reducible refine gate_callee (f := 59) rfl ?_); refine goesL_ (some 4) rfl rfl Tryz.func59 (by kernel_rfl) rfl #[.string a0] rfl (by (try simp only [List.map_toArray, List.map_cons, List.map_nil]); first | done | rfl | (simp only [List.length_drop, List.length_take]; rfl)) ?_; (with_reducible refine (awsrestjson_SanitizeErrorCode.calls k a0 t408 _ A2.out).mono ?_); rintro e w' ⟨rfl, ⟨nd, rfl⟩⟩; refine ⟨_, rfl, ?_⟩))
  go_ret
  exact ⟨by first | rfl | (simp; done) | (simp [*]; done), by repeat (first | exact Drawn0.refl _ | apply Drawn0.step)⟩

end Go.Proofs.YtclmjmfcggkpaaaGreatDoor.PX
