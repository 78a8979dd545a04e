import Derived.Test.YtclmjmfcggkpaaaGreatDoorQ5
import Derived.Test.YtclmjmfcggkpaaaGreatDoorQ20
import Derived.Test.YtclmjmfcggkpaaaGreatDoorQ13
import Derived.Lib.SmallJoins
namespace Go.Proofs.YtclmjmfcggkpaaaGreatDoor.PX
open Go.RowKit Go.Proofs.YtclmjmfcggkpaaaGreatDoorW.PrintWords Go.Proofs.YtclmjmfcggkpaaaGreatDoorW.PrintLast Go.Proofs.YtclmjmfcggkpaaaGreatDoorW.PrintMore
attribute [local go_sem] max2_int min2_int max_two min_two max_three min_three max_four min_four   -- for this text's walks alone
set_option linter.unusedVariables false
set_option linter.unusedSimpArgs false

/-! ### strconv_FormatBool_165: function 165 -/
def strconv_FormatBool_165.f (a0 : Bool) : Option (ByteArray) := if a0 = true then (some (⟨#[116, 114, 117, 101]⟩ : ByteArray)) else (some (⟨#[102, 97, 108, 115, 101]⟩ : ByteArray))
set_option maxHeartbeats 8000000 in
set_option maxRecDepth 100000 in
theorem strconv_FormatBool_165.calls (a0 : Bool) (r : ByteArray) (w : World) (h : strconv_FormatBool_165.f a0 = some r) :
 Calls Tryz.prog 165 #[.bool a0] w fun e w' => e = .returned (.string r) ∧ Drawn0 w w' := by
 have H : (if a0 = true then (some (⟨#[116, 114, 117, 101]⟩ : ByteArray)) else (some (⟨#[102, 97, 108, 115, 101]⟩ : ByteArray))) = some r := h
 clear h
 by_cases c2 : a0 = true
 ·subst c2
  have H1 : (some (⟨#[116, 114, 117, 101]⟩ : ByteArray)) = some r := by rw [if_pos rfl] at H; exact H
  clear H
  have H := H1
  clear H1
  obtain rfl := Option.some.inj H
  go_enter Tryz.func165, Tryz.ntmps165
  go_wp2
  go_ret
  exact ⟨by first | rfl | (simp; done) | (simp [*]; done), by repeat (first | exact Drawn0.refl _ | apply Drawn0.step)⟩
 ·replace c2 := Bool.eq_false_iff.mpr c2
  subst c2
  have H1 : (some (⟨#[102, 97, 108, 115, 101]⟩ : ByteArray)) = some r := by rw [if_neg (show ¬ (false = true) by decide)] at H; exact H
  clear H
  have H := H1
  clear H1
  obtain rfl := Option.some.inj H
  go_enter Tryz.func165, Tryz.ntmps165
  go_wp2
  go_ret
  exact ⟨by first | rfl | (simp; done) | (simp [*]; done), by repeat (first | exact Drawn0.refl _ | apply Drawn0.step)⟩

end Go.Proofs.YtclmjmfcggkpaaaGreatDoor.PX
namespace Go.Proofs.YtclmjmfcggkpaaaGreatDoor.PX
open Go.RowKit Go.Proofs.YtclmjmfcggkpaaaGreatDoorW.PrintWords Go.Proofs.YtclmjmfcggkpaaaGreatDoorW.PrintLast Go.Proofs.YtclmjmfcggkpaaaGreatDoorW.PrintMore
attribute [local go_sem] max2_int min2_int max_two min_two max_three min_three max_four min_four   -- for this text's walks alone
set_option linter.unusedVariables false
set_option linter.unusedSimpArgs false

/-! ### strconv_FormatBool_140: function 140 -/
def strconv_FormatBool_140.f (a0 : Bool) : Option (ByteArray) := (strconv_FormatBool_165.f a0).bind fun t143 => (some t143)
set_option maxHeartbeats 8000000 in
set_option maxRecDepth 100000 in
theorem strconv_FormatBool_140.calls (a0 : Bool) (r : ByteArray) (w : World) (h : strconv_FormatBool_140.f a0 = some r) :
 Calls Tryz.prog 140 #[.bool a0] w fun e w' => e = .returned (.string r) ∧ Drawn0 w w' := by
 have H : ((strconv_FormatBool_165.f a0).bind fun t143 => (some t143)) = some r := h
 clear h
 replace H := Option.bind_eq_some_iff.mp H
 obtain ⟨t143, A20, H⟩ := H
 replace H : (some t143) = some r := H
 have A2 := Aside0.mk A20
 clear A20
 obtain rfl := Option.some.inj H
 go_enter Tryz.func140, Tryz.ntmps140
 go_wp2_with (first | ((with_reducible refine gate_callee (f := 165) rfl ?_); refine goesL_ (some 4) rfl rfl Tryz.func165 (by kernel_rfl) rfl #[.bool a0] rfl (by (try simp only [List.map_toArray, List.map_cons, List.map_nil]); rfl) ?_; (with_reducible refine (strconv_FormatBool_165.calls a0 t143 _ A2.out).mono ?_); rintro e w' ⟨rfl, ⟨nd, rfl⟩⟩; refine ⟨_, rfl, ?_⟩))
 go_ret
 exact ⟨by first | rfl | (simp; done) | (simp [*]; done), by repeat (first | exact Drawn0.refl _ | apply Drawn0.step)⟩

end Go.Proofs.YtclmjmfcggkpaaaGreatDoor.PX
set_option linter.unusedVariables false
set_option linter.unusedSimpArgs false
namespace Go.Proofs.YtclmjmfcggkpaaaGreatDoor
open Go.RowKit Go.Proofs.YtclmjmfcggkpaaaGreatDoorW.PrintWords Go.Proofs.YtclmjmfcggkpaaaGreatDoorW.PrintLast Go.Proofs.YtclmjmfcggkpaaaGreatDoorW.PrintMore
namespace H
/-! ### Values of a path by their kinds -/
def Pow (w : World) : Prop := Lib.TabIs Tryz.prog w "internal/strconv.uint64pow10" .u64 Lib.pow10Tab
theorem pow_at : (Tryz.prog.globalNamed "internal/strconv.uint64pow10").isSome = true := by kernel_rfl
theorem Pow.below {w w' : World} (h : Pow w) (hb : Below w.heap.size w w') : Pow w' := by
 obtain ⟨g, hg⟩ := Option.isSome_iff_exists.1 pow_at
 exact Go.Joins.tab_stays hg h hb (Nat.le_refl _)
theorem grow_below (w : World) (k : Nat) (os : Array Obj) : Below w.heap.size w (Go.Sort.grow (w.drewN k) os) :=
 ⟨rfl, rfl, rfl, by show _ ≤ (w.heap ++ os).size; simp, fun i hi => by show (w.heap ++ os)[i]? = _; rw [Array.getElem?_append_left hi]⟩
def decS (n : Int) : ByteArray := ⟨(Lib.itoa n).toArray⟩
theorem fmtInt_call (n : Int) (h0 : -9223372036854775808 ≤ n) (h1 : n ≤ 9223372036854775807) (w : World) (hT : Pow w) :
 Calls Tryz.prog 141 #[.int .i64 n, .int .i64 10] w fun e w' => e = .returned (.string (decS n)) ∧ Below w.heap.size w w' :=
 (Tryz.strconv_FormatInt_10 n h0 h1 w hT).mono fun e w' ⟨he, k, os, hw⟩ => ⟨he, by rw [hw]; exact grow_below w k os⟩
def boolS (b : Bool) : ByteArray := if b then ⟨#[116, 114, 117, 101]⟩ else ⟨#[102, 97, 108, 115, 101]⟩
theorem fmtBool_call (b : Bool) (w : World) : Calls Tryz.prog 140 #[.bool b] w fun e w' => e = .returned (.string (boolS b)) ∧ Drawn0 w w' :=
 PX.strconv_FormatBool_140.calls b _ w (by cases b <;> rfl)
/-- The text of a value of a kind. -/
def kindS (kind : Int) (text : ByteArray) (num : Int) : ByteArray :=
 if kind = 1 then boolS (num != 0) else if kind = 2 then decS (IntKind.i8.wrap num) else if kind = 3 then decS (IntKind.i16.wrap num) else if kind = 4 then decS (wrap32 num) else if kind = 5 then decS num else text
theorem i8_eq (n : Int) : IntKind.i8.wrap n = if 128 ≤ n % 256 then n % 256 - 256 else n % 256 := by simp [IntKind.wrap, IntKind.bits, IntKind.signed]
theorem i16_eq (n : Int) : IntKind.i16.wrap n = if 32768 ≤ n % 65536 then n % 65536 - 65536 else n % 65536 := by simp [IntKind.wrap, IntKind.bits, IntKind.signed]
theorem i8_rng (n : Int) : -128 ≤ IntKind.i8.wrap n ∧ IntKind.i8.wrap n ≤ 127 := by
 rw [i8_eq]
 by_cases h : 128 ≤ n % 256
 ·rw [if_pos h]; omega
 ·rw [if_neg h]; omega
theorem i16_rng (n : Int) : -32768 ≤ IntKind.i16.wrap n ∧ IntKind.i16.wrap n ≤ 32767 := by
 rw [i16_eq]
 by_cases h : 32768 ≤ n % 65536
 ·rw [if_pos h]; omega
 ·rw [if_neg h]; omega
theorem i32_rng (n : Int) : -2147483648 ≤ wrap32 n ∧ wrap32 n ≤ 2147483647 := by unfold wrap32; omega
end H
end Go.Proofs.YtclmjmfcggkpaaaGreatDoor
