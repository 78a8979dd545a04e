import Derived.Test.YtclmjmfcggkpaaaGreatDoorU41
set_option linter.unusedVariables false
namespace Go.Proofs.YtclmjmfcggkpaaaGreatDoor
open Go.RowKit Go.Proofs.YtclmjmfcggkpaaaGreatDoorW.PrintWords Go.Proofs.YtclmjmfcggkpaaaGreatDoorW.PrintLast Go.Proofs.YtclmjmfcggkpaaaGreatDoorW.PrintMore
namespace PX
/-! ### spec.Text, for the printer -/
def spec_Text.f (k : Nat) (a0 : Int) (a1 : ByteArray) (a2 : Int) : Option ByteArray := if a1.size ≤ 2147483647 ∧ -9223372036854775808 ≤ a2 ∧ a2 ≤ 9223372036854775807 then some (H.textS a0 a1 a2) else none
theorem spec_Text.calls (k : Nat) (a0 : Int) (a1 : ByteArray) (a2 : Int) (r : ByteArray) (w : World) (h : spec_Text.f k a0 a1 a2 = some r) :
 Calls Tryz.prog 42 #[.int .i64 a0, .string a1, .int .i64 a2] w fun e w' => e = .returned (.string r) ∧ Below w.heap.size w w' := by
 unfold spec_Text.f at h
 split at h
 ·rename_i hc
  obtain rfl := Option.some.inj h
  exact H.text_call a0 a1 a2 w hc.1 hc.2.1 hc.2.2
 ·cases h
end PX
end Go.Proofs.YtclmjmfcggkpaaaGreatDoor
