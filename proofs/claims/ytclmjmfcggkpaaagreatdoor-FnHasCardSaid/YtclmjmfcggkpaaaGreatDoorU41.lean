import Derived.Test.YtclmjmfcggkpaaaGreatDoorU4
import Derived.Test.YtclmjmfcggkpaaaGreatDoorU21
import Derived.Test.YtclmjmfcggkpaaaGreatDoorU40
import Derived.Test.YtclmjmfcggkpaaaGreatDoorU22
import Derived.Test.YtclmjmfcggkpaaaGreatDoorU18
set_option linter.unusedVariables false
set_option linter.unusedSimpArgs false
namespace Go.Proofs.YtclmjmfcggkpaaaGreatDoor
open Go.RowKit Go.Proofs.YtclmjmfcggkpaaaGreatDoorW.PrintWords Go.Proofs.YtclmjmfcggkpaaaGreatDoorW.PrintLast Go.Proofs.YtclmjmfcggkpaaaGreatDoorW.PrintMore
open PX
namespace H
theorem take_nodup_step {α : Type} [DecidableEq α] (l : List α) (k : Nat) (h : k < l.length) (h1 : (l.take k).Nodup) (h2 : ∀ j : Nat, j < k → l[j]? ≠ l[k]?) : (l.take (k + 1)).Nodup := by
 rw [List.take_succ_eq_append_getElem h, List.nodup_append]
 refine ⟨h1, by simp, ?_⟩
 intro a ha b hb
 obtain rfl : b = l[k] := by simpa using hb
 rintro rfl
 obtain ⟨j, hj, e⟩ := List.mem_iff_getElem.1 ha
 simp only [List.length_take] at hj
 refine h2 j (by omega) ?_
 rw [List.getElem?_eq_getElem h, ← e, List.getElem_take, List.getElem?_eq_getElem]
end H
end Go.Proofs.YtclmjmfcggkpaaaGreatDoor
set_option linter.unusedVariables false
set_option linter.unusedSimpArgs false
namespace Go.Proofs.YtclmjmfcggkpaaaGreatDoor
open Go.RowKit Go.Proofs.YtclmjmfcggkpaaaGreatDoorW.PrintWords Go.Proofs.YtclmjmfcggkpaaaGreatDoorW.PrintLast Go.Proofs.YtclmjmfcggkpaaaGreatDoorW.PrintMore
open PX
namespace H
/-! ### Numbers in decimal -/
def digs (u : Nat) : List Int := (Lib.decDigits u).map fun b => (b.toNat : Int)
theorem digs_small (u : Nat) (h : u < 10) : digs u = [48 + (u : Int)] := by
 unfold digs
 rw [Lib.decDigits, dif_pos h]
 simp [UInt8.toNat_ofNat']
 omega
theorem digs_big (u : Nat) (h : ¬ u < 10) : digs u = digs (u / 10) ++ [48 + ((u % 10 : Nat) : Int)] := by
 unfold digs
 rw [Lib.decDigits, dif_neg h]
 simp [UInt8.toNat_ofNat']
 omega
theorem u64w (n : Int) : IntKind.u64.wrap n = n % 18446744073709551616 := by simp [IntKind.wrap, IntKind.bits, IntKind.signed]
theorem uns_eq : ∀ (n u : Nat), u < 10 ^ n → 1 ≤ n → u < 18446744073709551616 → ∀ acc : List Int, acc.length + n ≤ 1000 → ∀ F, n ≤ F → spec_Unsigned.l0 F (u : Int) acc = some (strOfNums (digs u ++ acc)) := by
 intro n
 induction n with
 | zero => intro u _ h; omega
 | succ n ih =>
   intro u hu _ hlt acc hacc F hF
   match F, hF with
   | F + 1, hF =>
     have e1 : (IntKind.u64.wrap (48 + Int.tmod (u : Int) 10)) % 256 = 48 + ((u % 10 : Nat) : Int) := by
      rw [u64w, Int.tmod_eq_emod_of_nonneg (by omega)]
      omega
     have e2 : IntKind.u64.wrap (Int.tdiv (u : Int) 10) = ((u / 10 : Nat) : Int) := by
      rw [u64w, Int.tdiv_eq_ediv_of_nonneg (by omega)]
      omega
     rw [spec_Unsigned.l0, e1, e2]
     simp only [Option.bind_some]
     rw [if_pos (by simp; omega)]
     by_cases h : u < 10
     ·rw [if_pos (by omega), digs_small u h]
      have : u % 10 = u := Nat.mod_eq_of_lt h
      rw [this]
     ·rw [if_neg (by omega)]
      have hn : 1 ≤ n := by
       rcases Nat.eq_zero_or_pos n with rfl | h'
       ·simp at hu; omega
       ·exact h'
      rw [ih (u / 10) (by rw [Nat.pow_succ] at hu; omega) hn (by omega) _ (by simp; omega) F (by omega), digs_big u h]
      simp
theorem unsigned_eq (u : Nat) (h : u < 18446744073709551616) : spec_Unsigned.f 20 (u : Int) = some (strOfNums (digs u)) := by
 have := uns_eq 20 u (by omega) (by omega) h [] (by simp) 20 (Nat.le_refl _)
 simpa [spec_Unsigned.f] using this
theorem ofN_id : ((fun n : Int => UInt8.ofNat n.toNat) ∘ fun b : UInt8 => (b.toNat : Int)) = id := by funext b; simp
theorem decS_pos (n : Nat) : decS (n : Int) = strOfNums (digs n) := by
 unfold decS Lib.itoa
 rw [if_neg (by omega)]
 unfold digs strOfNums
 simp [ofN_id]
theorem decS_neg (n : Nat) : decS (-((n + 1 : Nat) : Int)) = (⟨#[45]⟩ : ByteArray) ++ strOfNums (digs (n + 1)) := by
 unfold decS Lib.itoa
 rw [if_pos (by omega)]
 apply bytes_inj
 have : (-((n + 1 : Nat) : Int)).natAbs = n + 1 := by omega
 rw [this]
 unfold digs strOfNums bytesOf
 simp
theorem decimal_eq (n : Int) (h0 : -9223372036854775808 ≤ n) (h1 : n ≤ 9223372036854775807) : spec_Decimal.f 20 n = some (decS n) := by
 unfold spec_Decimal.f
 by_cases h : n < 0
 ·rw [if_pos h]
  obtain ⟨m, rfl⟩ : ∃ m : Nat, n = -((m + 1 : Nat) : Int) := ⟨(-n - 1).toNat, by omega⟩
  have e : IntKind.u64.wrap ((IntKind.u64.wrap (wrap64 (-(wrap64 (-((m + 1 : Nat) : Int) + 1))))) + 1) = ((m + 1 : Nat) : Int) := by
   rw [u64w, u64w]
   unfold wrap64
   omega
  rw [e, unsigned_eq (m + 1) (by omega)]
  simp only [Option.bind_some]
  rw [if_pos, decS_neg]
  rw [strOfNums_size]
  have : (digs (m + 1)).length ≤ 20 := by
   have hl : ∀ k u : Nat, u < 10 ^ k → 1 ≤ k → (digs u).length ≤ k := by
    intro k
    induction k with
    | zero => intro u _ h; omega
    | succ k ih =>
      intro u hu _
      by_cases h : u < 10
      ·rw [digs_small u h]; simp
      ·rw [digs_big u h]
       have hk : 1 ≤ k := by
        rcases Nat.eq_zero_or_pos k with rfl | h'
        ·simp at hu; omega
        ·exact h'
       have := ih (u / 10) (by rw [Nat.pow_succ] at hu; omega) hk
       simp
       omega
   exact hl 20 _ (by omega) (by omega)
  omega
 ·rw [if_neg h]
  obtain ⟨m, rfl⟩ := Int.eq_ofNat_of_zero_le (show 0 ≤ n by omega)
  have e : IntKind.u64.wrap (m : Int) = (m : Int) := by rw [u64w]; omega
  rw [e, unsigned_eq m (by omega), decS_pos]
  rfl
theorem decimal_call (n : Int) (w : World) (h0 : -9223372036854775808 ≤ n) (h1 : n ≤ 9223372036854775807) :
 Calls Tryz.prog 66 #[.int .i64 n] w fun e w' => e = .returned (.string (decS n)) ∧ Below w.heap.size w w' :=
 spec_Decimal.calls 20 n _ w (decimal_eq n h0 h1)
/-- The text of a value of whatever kind. -/
def textS (kind : Int) (text : ByteArray) (num : Int) : ByteArray :=
 if kind = 6 then b64 text else if kind = 11 then strOfNums (digs (num % 18446744073709551616).toNat) else kindS kind text num
theorem unsigned_call (u : Nat) (w : World) (h : u < 18446744073709551616) : Calls Tryz.prog 67 #[.int .u64 (u : Int)] w fun e w' => e = .returned (.string (strOfNums (digs u))) ∧ Below w.heap.size w w' :=
 spec_Unsigned.calls 20 _ _ w (unsigned_eq u h)
theorem ne_b {a b : Int} (h : a ≠ b) : (a == b) = false := by simpa using h
set_option maxHeartbeats 1000000 in
set_option maxRecDepth 100000 in
theorem text_call (kind : Int) (text : ByteArray) (num : Int) (w : World) (ht : text.size ≤ 2147483647) (h0 : -9223372036854775808 ≤ num) (h1 : num ≤ 9223372036854775807) :
 Calls Tryz.prog 42 #[.int .i64 kind, .string text, .int .i64 num] w fun e w' => e = .returned (.string (textS kind text num)) ∧ Below w.heap.size w w' := by
 have r8 := i8_rng num
 have r16 := i16_rng num
 have r32 := i32_rng num
 by_cases k1 : kind = 1
 ·subst k1
  have e : textS 1 text num = boolS (num != 0) := by simp [textS, kindS]
  rw [e]
  by_cases hn : num = 0
  ·subst hn
   go_enter Tryz.func42, Tryz.ntmps42
   go_wp2
   go_ret
   exact ⟨rfl, Below.refl _ _⟩
  ·have hb : (num != 0) = true := by simpa using hn
   have hbs : boolS (num != 0) = ⟨#[116, 114, 117, 101]⟩ := by rw [hb]; rfl
   rw [hbs]
   clear hbs
   go_enter Tryz.func42, Tryz.ntmps42
   go_wp2
   go_ret
   exact ⟨rfl, Below.refl _ _⟩
 ·have b1 := ne_b k1
  by_cases k2 : kind = 2
  ·subst k2
   have e : textS 2 text num = decS (IntKind.i8.wrap num) := by simp [textS, kindS]
   rw [e]
   clear b1
   go_enter Tryz.func42, Tryz.ntmps42
   go_wp2_with (go_at_call 66; refine (decimal_call (IntKind.i8.wrap num) _ (by omega) (by omega)).mono ?_; rintro e w' ⟨rfl, hb⟩)
   go_ret
   exact ⟨rfl, hb⟩
  ·have b2 := ne_b k2
   by_cases k3 : kind = 3
   ·subst k3
    have e : textS 3 text num = decS (IntKind.i16.wrap num) := by simp [textS, kindS]
    rw [e]
    clear b1 b2
    go_enter Tryz.func42, Tryz.ntmps42
    go_wp2_with (go_at_call 66; refine (decimal_call (IntKind.i16.wrap num) _ (by omega) (by omega)).mono ?_; rintro e w' ⟨rfl, hb⟩)
    go_ret
    exact ⟨rfl, hb⟩
   ·have b3 := ne_b k3
    by_cases k4 : kind = 4
    ·subst k4
     have e : textS 4 text num = decS (wrap32 num) := by simp [textS, kindS]
     rw [e]
     clear b1 b2 b3
     go_enter Tryz.func42, Tryz.ntmps42
     go_wp2_with (go_at_call 66; refine (decimal_call (wrap32 num) _ (by omega) (by omega)).mono ?_; rintro e w' ⟨rfl, hb⟩)
     go_ret
     exact ⟨rfl, hb⟩
    ·have b4 := ne_b k4
     by_cases k5 : kind = 5
     ·subst k5
      have e : textS 5 text num = decS num := by simp [textS, kindS]
      rw [e]
      clear b1 b2 b3 b4
      go_enter Tryz.func42, Tryz.ntmps42
      go_wp2_with (go_at_call 66; refine (decimal_call num _ h0 h1).mono ?_; rintro e w' ⟨rfl, hb⟩)
      go_ret
      exact ⟨rfl, hb⟩
     ·have b5 := ne_b k5
      by_cases k11 : kind = 11
      ·subst k11
       have e : textS 11 text num = strOfNums (digs (num % 18446744073709551616).toNat) := by simp [textS]
       rw [e]
       clear b1 b2 b3 b4 b5
       have hu := unsigned_call (num % 18446744073709551616).toNat
       have hq : ((num % 18446744073709551616).toNat : Int) = IntKind.u64.wrap num := by rw [u64w]; omega
       rw [hq] at hu
       have hu2 := fun w => hu w (by omega)
       replace hu2 := Aside0.mk hu2
       clear hu hq e
       go_enter Tryz.func42, Tryz.ntmps42
       go_wp2_with (go_at_call 67; refine (hu2.out _).mono ?_; rintro e w' ⟨rfl, hb⟩)
       go_ret
       exact ⟨rfl, hb⟩
      ·have b11 := ne_b k11
       by_cases k6 : kind = 6
       ·subst k6
        have e : textS 6 text num = b64 text := by simp [textS]
        rw [e]
        clear b1 b2 b3 b4 b5 b11
        go_enter Tryz.func42, Tryz.ntmps42
        go_wp2_with (go_at_call 68; refine (base64_call text _ ht).mono ?_; rintro e w' ⟨rfl, hb⟩)
        go_ret
        exact ⟨rfl, hb⟩
       ·have b6 := ne_b k6
        have e : textS kind text num = text := by simp [textS, kindS, k1, k2, k3, k4, k5, k6, k11]
        rw [e]
        clear e k1 k2 k3 k4 k5 k6 k11
        go_enter Tryz.func42, Tryz.ntmps42
        go_wp2
        go_ret
        exact ⟨rfl, Below.refl _ _⟩
end H
end Go.Proofs.YtclmjmfcggkpaaaGreatDoor
set_option linter.unusedVariables false
set_option linter.unusedSimpArgs false
namespace Go.Proofs.YtclmjmfcggkpaaaGreatDoor
open Go.RowKit Go.Proofs.YtclmjmfcggkpaaaGreatDoorW.PrintWords Go.Proofs.YtclmjmfcggkpaaaGreatDoorW.PrintLast Go.Proofs.YtclmjmfcggkpaaaGreatDoorW.PrintMore
open PX
namespace H
/-- What the loop of LabelTexts keeps. -/
structure LtI (w : World) (vn : Value) (names : List ByteArray) (vk : Value) (keys : List ByteArray) (vo : Value) (out : List S65) (w' : World) : Prop where
 below : Below w.heap.size w w'
 nm : w'.ownsRow w.heap.size 9 1 vn names.length (encs Value.string names)
 ks : w'.ownsRow w.heap.size 9 1 vk keys.length (encs Value.string keys)
 ot : Kd.R k65 65 w' w.heap.size (fun _ => True) vo out
 nk : ∀ k, vn.ownBlock = some k → vk.ownBlock ≠ some k
 no : ∀ k, vn.ownBlock = some k → vo.ownBlock ≠ some k
 ko : ∀ k, vk.ownBlock = some k → vo.ownBlock ≠ some k
namespace LtI
variable {w w' w'' : World} {vn vk vo v1 : Value} {names keys : List ByteArray} {out : List S65}
end LtI
end H
end Go.Proofs.YtclmjmfcggkpaaaGreatDoor
