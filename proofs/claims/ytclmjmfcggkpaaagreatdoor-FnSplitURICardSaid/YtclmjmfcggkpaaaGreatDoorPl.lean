import Derived.Test.YtclmjmfcggkpaaaGreatDoorPXx32
import Derived.Test.YtclmjmfcggkpaaaGreatDoorPXx35
namespace Go.Proofs.YtclmjmfcggkpaaaGreatDoor
open Go.RowKit Go.Proofs.YtclmjmfcggkpaaaGreatDoorW.PrintWords Go.Proofs.YtclmjmfcggkpaaaGreatDoorW.PrintLast Go.Proofs.YtclmjmfcggkpaaaGreatDoorW.PrintMore
namespace H
/-! ### Escaping, plainly -/
def unres (c : Int) : Bool := decide ((97 ≤ c ∧ c ≤ 122) ∨ (65 ≤ c ∧ c ≤ 90) ∨ (48 ≤ c ∧ c ≤ 57) ∨ c = 45 ∨ c = 46 ∨ c = 95 ∨ c = 126)
def hexd (n : Int) : Int := if n < 10 then 48 + n else 55 + n
def esc1 (slash : Bool) (c : Int) : List Int := if unres c || (slash && c == 47) then [c] else [37, hexd (c / 16), hexd (c % 16)]
def escB (slash : Bool) (xs : List Int) : List Int := xs.flatMap (esc1 slash)
theorem escB_snoc (slash : Bool) (xs : List Int) (c : Int) : escB slash (xs ++ [c]) = escB slash xs ++ esc1 slash c := by simp [escB]
theorem esc1_len (slash : Bool) (c : Int) : (esc1 slash c).length ≤ 3 := by unfold esc1; split <;> simp
theorem escB_len (slash : Bool) (xs : List Int) : (escB slash xs).length ≤ 3 * xs.length := by
  induction xs with
  | nil => simp [escB]
  | cons x xs ih =>
    have := esc1_len slash x
    simp only [escB, List.flatMap_cons, List.length_append, List.length_cons] at *
    omega
theorem noEsc_eq (c : Int) : PX.smhttp_noEscape.f c = some (unres c) := by
  unfold PX.smhttp_noEscape.f unres
  repeat' split
  all_goals (congr 1; rw [Bool.eq_iff_iff]; simp; try omega)
theorem and15 (c : Int) (h0 : 0 ≤ c) (h1 : c ≤ 255) : Go.bits .and .u8 c 15 = c % 16 := by
  have : ∀ n : Nat, n < 256 → Go.bits .and .u8 (n : Int) 15 = (n : Int) % 16 := by decide +kernel
  obtain ⟨n, rfl⟩ := Int.eq_ofNat_of_zero_le h0
  exact this n (by omega)
theorem hex_bt (n : Int) (h0 : 0 ≤ n) (h1 : n < 16) : bt (⟨#[48, 49, 50, 51, 52, 53, 54, 55, 56, 57, 65, 66, 67, 68, 69, 70]⟩ : ByteArray) n = hexd n := by
  have : ∀ m : Nat, m < 16 → bt (⟨#[48, 49, 50, 51, 52, 53, 54, 55, 56, 57, 65, 66, 67, 68, 69, 70]⟩ : ByteArray) (m : Int) = hexd (m : Int) := by decide +kernel
  obtain ⟨m, rfl⟩ := Int.eq_ofNat_of_zero_le h0
  exact this m (by omega)
theorem hexSign_eq (c : Int) (h0 : 0 ≤ c) (h1 : c ≤ 255) : PX.smhttp_hexSign.f c = some (strOfNums [37, hexd (c / 16), hexd (c % 16)]) := by
  unfold PX.smhttp_hexSign.f
  rw [and15 c h0 h1, if_pos (by omega), if_pos (by omega), if_pos (by omega), if_pos (by omega), hex_bt _ (by omega) (by omega), hex_bt _ (by omega) (by omega)]
end H
end Go.Proofs.YtclmjmfcggkpaaaGreatDoor
