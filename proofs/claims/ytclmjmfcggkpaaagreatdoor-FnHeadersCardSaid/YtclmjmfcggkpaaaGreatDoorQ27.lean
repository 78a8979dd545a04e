import Derived.Test.YtclmjmfcggkpaaaGreatDoorQ26
set_option linter.unusedVariables false
set_option linter.unusedSimpArgs false
namespace Go.Proofs.YtclmjmfcggkpaaaGreatDoor
open Go.RowKit Go.Proofs.YtclmjmfcggkpaaaGreatDoorW.PrintWords Go.Proofs.YtclmjmfcggkpaaaGreatDoorW.PrintLast Go.Proofs.YtclmjmfcggkpaaaGreatDoorW.PrintMore
open PX
open Go.ChangeMaps (setBlock)
namespace HH
open H
/-! ### Header.Get, Header.Del -/
set_option maxRecDepth 100000 in
theorem get_none {B m n : Nat} {X : Nat → Prop} {T : ByteArray → Option (List ByteArray)} {w : World} (H : HMq B X m n T w) (key : ByteArray) (hx : T key = none) :
 Calls Tryz.prog 82 #[.map (some m), .string key] w fun e w' => e = .returned (.string ⟨#[]⟩) ∧ w' = w := by
 obtain ⟨rs, clock, h1, h2, h3⟩ := H.out
 have hl := run_lookup h1.obj key (.slice none 0 0) (.inl ⟨(lk_none key).1 ((h2 key).trans hx), rfl⟩) h1.keys
 go_enter Tryz.func82, Tryz.ntmps82
 go_wp2
 go_ret
 exact ⟨rfl, rfl⟩
end HH
end Go.Proofs.YtclmjmfcggkpaaaGreatDoor
