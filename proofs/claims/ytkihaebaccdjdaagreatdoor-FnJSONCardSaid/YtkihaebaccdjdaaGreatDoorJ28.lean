import Derived.Test.YtkihaebaccdjdaaGreatDoorJ4
import Derived.Test.YtkihaebaccdjdaaGreatDoorJ27
import Derived.Test.YtkihaebaccdjdaaGreatDoorJ26
import Derived.Test.YtkihaebaccdjdaaGreatDoorJ25
namespace Go.Proofs.YtkihaebaccdjdaaGreatDoor.PX
open Go.RowKit Go.Proofs.YtkihaebaccdjdaaGreatDoorW.PrintWords Go.Proofs.YtkihaebaccdjdaaGreatDoorW.PrintLast Go.Proofs.YtkihaebaccdjdaaGreatDoorW.PrintMore
attribute [local go_sem] max2_int min2_int max_two min_two max_three min_three max_four min_four   -- for this text's walks alone
set_option linter.unusedVariables false
set_option linter.unusedSimpArgs false

/-! ### spec_Decimal: function 81 -/
def spec_Decimal.f (k : Nat) (a0 : Int) : Option (ByteArray) := if a0 < 0 then ((spec_Unsigned.f k (IntKind.u64.wrap ((IntKind.u64.wrap (wrap64 (-(wrap64 (a0 + 1))))) + 1))).bind fun t370 => (if 1 + t370.size ≤ 9223372036854775807 then (some ((⟨#[45]⟩ : ByteArray) ++ t370)) else (none))) else ((spec_Unsigned.f k (IntKind.u64.wrap (a0))).bind fun t371 => (some t371))
set_option maxHeartbeats 8000000 in
set_option maxRecDepth 100000 in
theorem spec_Decimal.calls (k : Nat) (a0 : Int) (r : ByteArray) (w : World) (h : spec_Decimal.f k a0 = some r) :
    Calls Tryz.prog 81 #[.int .i64 a0] w fun e w' => e = .returned (.string r) ∧ Below w.heap.size w w' := by
  have HB := Aside0.mk (Below.refl w.heap.size w)
  have H : (if a0 < 0 then ((spec_Unsigned.f k (IntKind.u64.wrap ((IntKind.u64.wrap (wrap64 (-(wrap64 (a0 + 1))))) + 1))).bind fun t370 => (if 1 + t370.size ≤ 9223372036854775807 then (some ((⟨#[45]⟩ : ByteArray) ++ t370)) else (none))) else ((spec_Unsigned.f k (IntKind.u64.wrap (a0))).bind fun t371 => (some t371))) = some r := h
  clear h
  by_cases c2 : a0 < 0
  · rw [if_pos c2] at H
    have c2b0 : decide (a0 < 0) = true := decide_eq_true c2
    clear c2
    replace H := Option.bind_eq_some_iff.mp H
    obtain ⟨t370, A30, H⟩ := H
    replace H : (if 1 + t370.size ≤ 9223372036854775807 then (some ((⟨#[45]⟩ : ByteArray) ++ t370)) else (none)) = some r := H
    have A3 := Aside0.mk A30
    clear A30
    by_cases c4 : 1 + t370.size ≤ 9223372036854775807
    · rw [if_pos c4] at H
      have c4b0 := eq_true c4
      have c4b1 : decide (1 + t370.size ≤ 9223372036854775807) = true := decide_eq_true c4
      try have c4b2 : (9223372036854775807 < 1 + t370.size) = False := eq_false (Nat.not_lt.2 c4)
      obtain rfl := Option.some.inj H
      go_enter Tryz.func81, Tryz.ntmps81
      go_wp2_with (first | ((with_reducible refine gate_callee (f := 147) rfl ?_); refine goesL_ (some 10) rfl rfl Tryz.func147 (by kernel_rfl) rfl #[.int .u64 (IntKind.u64.wrap ((IntKind.u64.wrap (wrap64 (-(wrap64 (a0 + 1))))) + 1))] rfl (by (try simp only [List.map_toArray, List.map_cons, List.map_nil]); first | done | rfl | (simp only [List.length_drop, List.length_take]; rfl)) ?_; (with_reducible refine (spec_Unsigned.calls k (IntKind.u64.wrap ((IntKind.u64.wrap (wrap64 (-(wrap64 (a0 + 1))))) + 1)) t370 _ A3.out).mono ?_); rintro e w5 ⟨rfl, hb⟩; refine ⟨_, rfl, ?_⟩; have n0_ := Aside0.mk (below_step (by repeat (first | (with_reducible first | exact HB.out | apply below_alloc | apply pw_below_drewN | apply below_drew1) | exact HB.out)) hb); clear HB; have HB := n0_; clear n0_; (try clear hb); (try clear hb2); (try clear hk); (try clear hi)))
      go_ret
      exact ⟨by first | rfl | (simp [errW_none, errW_some] <;> rfl) | (simp [*, errW_none, errW_some] <;> rfl), by repeat (first | (with_reducible first | exact HB.out | apply below_alloc | apply pw_below_drewN | apply below_drew1) | exact HB.out)⟩
    · rw [if_neg c4] at H
      exact absurd H (by simp)
  · rw [if_neg c2] at H
    have c2b0 : decide (a0 < 0) = false := decide_eq_false c2
    clear c2
    replace H := Option.bind_eq_some_iff.mp H
    obtain ⟨t371, A60, H⟩ := H
    replace H : (some t371) = some r := H
    have A6 := Aside0.mk A60
    clear A60
    obtain rfl := Option.some.inj H
    go_enter Tryz.func81, Tryz.ntmps81
    go_wp2_with (first | ((with_reducible refine gate_callee (f := 147) rfl ?_); refine goesL_ (some 14) rfl rfl Tryz.func147 (by kernel_rfl) rfl #[.int .u64 (IntKind.u64.wrap (a0))] rfl (by (try simp only [List.map_toArray, List.map_cons, List.map_nil]); first | done | rfl | (simp only [List.length_drop, List.length_take]; rfl)) ?_; (with_reducible refine (spec_Unsigned.calls k (IntKind.u64.wrap (a0)) t371 _ A6.out).mono ?_); rintro e w7 ⟨rfl, hb⟩; refine ⟨_, rfl, ?_⟩; have n0_ := Aside0.mk (below_step (by repeat (first | (with_reducible first | exact HB.out | apply below_alloc | apply pw_below_drewN | apply below_drew1) | exact HB.out)) hb); clear HB; have HB := n0_; clear n0_; (try clear hb); (try clear hb2); (try clear hk); (try clear hi)))
    go_ret
    exact ⟨by first | rfl | (simp [errW_none, errW_some] <;> rfl) | (simp [*, errW_none, errW_some] <;> rfl), by repeat (first | (with_reducible first | exact HB.out | apply below_alloc | apply pw_below_drewN | apply below_drew1) | exact HB.out)⟩

end Go.Proofs.YtkihaebaccdjdaaGreatDoor.PX
set_option linter.unusedVariables false
set_option linter.unusedSimpArgs false
namespace Go.Proofs.YtkihaebaccdjdaaGreatDoor
open Go.RowKit Go.Proofs.YtkihaebaccdjdaaGreatDoorW.PrintWords Go.Proofs.YtkihaebaccdjdaaGreatDoorW.PrintLast Go.Proofs.YtkihaebaccdjdaaGreatDoorW.PrintMore
open PX
namespace H
def decI (n : Int) : ByteArray := ⟨(Lib.itoa n).toArray⟩
def boolS (b : Bool) : ByteArray := if b then ⟨#[116, 114, 117, 101]⟩ else ⟨#[102, 97, 108, 115, 101]⟩
def kindS (kind : Int) (text : ByteArray) (num : Int) : ByteArray :=
  if kind = 1 then boolS (num != 0) else if kind = 2 then decI (IntKind.i8.wrap num) else if kind = 3 then decI (IntKind.i16.wrap num) else if kind = 4 then decI (wrap32 num) else if kind = 5 then decI num else text
theorem i8_eq (n : Int) : IntKind.i8.wrap n = if 128 ≤ n % 256 then n % 256 - 256 else n % 256 := by simp [IntKind.wrap, IntKind.bits, IntKind.signed]
theorem i16_eq (n : Int) : IntKind.i16.wrap n = if 32768 ≤ n % 65536 then n % 65536 - 65536 else n % 65536 := by simp [IntKind.wrap, IntKind.bits, IntKind.signed]
theorem i8_rng (n : Int) : -128 ≤ IntKind.i8.wrap n ∧ IntKind.i8.wrap n ≤ 127 := by
  rw [i8_eq]
  by_cases h : 128 ≤ n % 256
  · rw [if_pos h]; omega
  · rw [if_neg h]; omega
theorem i16_rng (n : Int) : -32768 ≤ IntKind.i16.wrap n ∧ IntKind.i16.wrap n ≤ 32767 := by
  rw [i16_eq]
  by_cases h : 32768 ≤ n % 65536
  · rw [if_pos h]; omega
  · rw [if_neg h]; omega
theorem i32_rng (n : Int) : -2147483648 ≤ wrap32 n ∧ wrap32 n ≤ 2147483647 := by unfold wrap32; omega
/-! ### Numbers in decimal -/
def digs (u : Nat) : List Int := (Lib.decDigits u).map fun b => (b.toNat : Int)
theorem digs_small (u : Nat) (h : u < 10) : digs u = [48 + (u : Int)] := by
  unfold digs
  rw [Lib.decDigits, dif_pos h]
  simp [UInt8.toNat_ofNat']
  omega
theorem digs_big (u : Nat) (h : ¬ u < 10) : digs u = digs (u / 10) ++ [48 + ((u % 10 : Nat) : Int)] := by
  unfold digs
  rw [Lib.decDigits, dif_neg h]
  simp [UInt8.toNat_ofNat']
  omega
theorem u64w (n : Int) : IntKind.u64.wrap n = n % 18446744073709551616 := by simp [IntKind.wrap, IntKind.bits, IntKind.signed]
theorem uns_eq : ∀ (n u : Nat), u < 10 ^ n → 1 ≤ n → u < 18446744073709551616 → ∀ acc : List Int, acc.length + n ≤ 1000 → ∀ F, n ≤ F → spec_Unsigned.l0 F (u : Int) acc = some (strOfNums (digs u ++ acc)) := by
  intro n
  induction n with
  | zero => intro u _ h; omega
  | succ n ih =>
    intro u hu _ hlt acc hacc F hF
    match F, hF with
    | F + 1, hF =>
      have e1 : (IntKind.u64.wrap (48 + Int.tmod (u : Int) 10)) % 256 = 48 + ((u % 10 : Nat) : Int) := by
        rw [u64w, Int.tmod_eq_emod_of_nonneg (by omega)]
        omega
      have e2 : IntKind.u64.wrap (Int.tdiv (u : Int) 10) = ((u / 10 : Nat) : Int) := by
        rw [u64w, Int.tdiv_eq_ediv_of_nonneg (by omega)]
        omega
      rw [spec_Unsigned.l0, e1, e2]
      simp only [Option.bind_some]
      rw [if_pos (by simp; omega)]
      by_cases h : u < 10
      · rw [if_pos (by omega), digs_small u h]
        have : u % 10 = u := Nat.mod_eq_of_lt h
        rw [this]
      · rw [if_neg (by omega)]
        have hn : 1 ≤ n := by
          rcases Nat.eq_zero_or_pos n with rfl | h'
          · simp at hu; omega
          · exact h'
        rw [ih (u / 10) (by rw [Nat.pow_succ] at hu; omega) hn (by omega) _ (by simp; omega) F (by omega), digs_big u h]
        simp
theorem unsigned_eq (u : Nat) (h : u < 18446744073709551616) : spec_Unsigned.f 20 (u : Int) = some (strOfNums (digs u)) := by
  have := uns_eq 20 u (by omega) (by omega) h [] (by simp) 20 (Nat.le_refl _)
  simpa [spec_Unsigned.f] using this
theorem ofN_id : ((fun n : Int => UInt8.ofNat n.toNat) ∘ fun b : UInt8 => (b.toNat : Int)) = id := by funext b; simp
theorem decI_pos (n : Nat) : decI (n : Int) = strOfNums (digs n) := by
  unfold decI Lib.itoa
  rw [if_neg (by omega)]
  unfold digs strOfNums
  simp [ofN_id]
theorem decI_neg (n : Nat) : decI (-((n + 1 : Nat) : Int)) = (⟨#[45]⟩ : ByteArray) ++ strOfNums (digs (n + 1)) := by
  unfold decI Lib.itoa
  rw [if_pos (by omega)]
  apply bytes_inj
  have : (-((n + 1 : Nat) : Int)).natAbs = n + 1 := by omega
  rw [this]
  unfold digs strOfNums bytesOf
  simp
theorem decimal_eq (n : Int) (h0 : -9223372036854775808 ≤ n) (h1 : n ≤ 9223372036854775807) : spec_Decimal.f 20 n = some (decI n) := by
  unfold spec_Decimal.f
  by_cases h : n < 0
  · rw [if_pos h]
    obtain ⟨m, rfl⟩ : ∃ m : Nat, n = -((m + 1 : Nat) : Int) := ⟨(-n - 1).toNat, by omega⟩
    have e : IntKind.u64.wrap ((IntKind.u64.wrap (wrap64 (-(wrap64 (-((m + 1 : Nat) : Int) + 1))))) + 1) = ((m + 1 : Nat) : Int) := by
      rw [u64w, u64w]
      unfold wrap64
      omega
    rw [e, unsigned_eq (m + 1) (by omega)]
    simp only [Option.bind_some]
    rw [if_pos, decI_neg]
    rw [strOfNums_size]
    have : (digs (m + 1)).length ≤ 20 := by
      have hl : ∀ k u : Nat, u < 10 ^ k → 1 ≤ k → (digs u).length ≤ k := by
        intro k
        induction k with
        | zero => intro u _ h; omega
        | succ k ih =>
          intro u hu _
          by_cases h : u < 10
          · rw [digs_small u h]; simp
          · rw [digs_big u h]
            have hk : 1 ≤ k := by
              rcases Nat.eq_zero_or_pos k with rfl | h'
              · simp at hu; omega
              · exact h'
            have := ih (u / 10) (by rw [Nat.pow_succ] at hu; omega) hk
            simp
            omega
      exact hl 20 _ (by omega) (by omega)
    omega
  · rw [if_neg h]
    obtain ⟨m, rfl⟩ := Int.eq_ofNat_of_zero_le (show 0 ≤ n by omega)
    have e : IntKind.u64.wrap (m : Int) = (m : Int) := by rw [u64w]; omega
    rw [e, unsigned_eq m (by omega), decI_pos]
    rfl
theorem decimal_call (n : Int) (w : World) (h0 : -9223372036854775808 ≤ n) (h1 : n ≤ 9223372036854775807) :
    Calls Tryz.prog 81 #[.int .i64 n] w fun e w' => e = .returned (.string (decI n)) ∧ Below w.heap.size w w' :=
  spec_Decimal.calls 20 n _ w (decimal_eq n h0 h1)
/-- The text of a value of whatever kind. -/
def textS (kind : Int) (text : ByteArray) (num : Int) : ByteArray :=
  if kind = 6 then b64 text else if kind = 11 then strOfNums (digs (num % 18446744073709551616).toNat) else kindS kind text num
theorem unsigned_call (u : Nat) (w : World) (h : u < 18446744073709551616) : Calls Tryz.prog 147 #[.int .u64 (u : Int)] w fun e w' => e = .returned (.string (strOfNums (digs u))) ∧ Below w.heap.size w w' :=
  spec_Unsigned.calls 20 _ _ w (unsigned_eq u h)
theorem ne_b {a b : Int} (h : a ≠ b) : (a == b) = false := by simpa using h
set_option maxHeartbeats 1000000 in
set_option maxRecDepth 100000 in
theorem text_call (kind : Int) (text : ByteArray) (num : Int) (w : World) (ht : text.size ≤ 2147483647) (h0 : -9223372036854775808 ≤ num) (h1 : num ≤ 9223372036854775807) :
    Calls Tryz.prog 82 #[.int .i64 kind, .string text, .int .i64 num] w fun e w' => e = .returned (.string (textS kind text num)) ∧ Below w.heap.size w w' := by
  have r8 := i8_rng num
  have r16 := i16_rng num
  have r32 := i32_rng num
  by_cases k1 : kind = 1
  · subst k1
    have e : textS 1 text num = boolS (num != 0) := by simp [textS, kindS]
    rw [e]
    by_cases hn : num = 0
    · subst hn
      go_enter Tryz.func82, Tryz.ntmps82
      go_wp2
      go_ret
      exact ⟨rfl, Below.refl _ _⟩
    · have hb : (num != 0) = true := by simpa using hn
      have hbs : boolS (num != 0) = ⟨#[116, 114, 117, 101]⟩ := by rw [hb]; rfl
      rw [hbs]
      clear hbs
      go_enter Tryz.func82, Tryz.ntmps82
      go_wp2
      go_ret
      exact ⟨rfl, Below.refl _ _⟩
  · have b1 := ne_b k1
    by_cases k2 : kind = 2
    · subst k2
      have e : textS 2 text num = decI (IntKind.i8.wrap num) := by simp [textS, kindS]
      rw [e]
      clear b1
      go_enter Tryz.func82, Tryz.ntmps82
      go_wp2_with (go_at_call 81; refine (decimal_call (IntKind.i8.wrap num) _ (by omega) (by omega)).mono ?_; rintro e w' ⟨rfl, hb⟩)
      go_ret
      exact ⟨rfl, hb⟩
    · have b2 := ne_b k2
      by_cases k3 : kind = 3
      · subst k3
        have e : textS 3 text num = decI (IntKind.i16.wrap num) := by simp [textS, kindS]
        rw [e]
        clear b1 b2
        go_enter Tryz.func82, Tryz.ntmps82
        go_wp2_with (go_at_call 81; refine (decimal_call (IntKind.i16.wrap num) _ (by omega) (by omega)).mono ?_; rintro e w' ⟨rfl, hb⟩)
        go_ret
        exact ⟨rfl, hb⟩
      · have b3 := ne_b k3
        by_cases k4 : kind = 4
        · subst k4
          have e : textS 4 text num = decI (wrap32 num) := by simp [textS, kindS]
          rw [e]
          clear b1 b2 b3
          go_enter Tryz.func82, Tryz.ntmps82
          go_wp2_with (go_at_call 81; refine (decimal_call (wrap32 num) _ (by omega) (by omega)).mono ?_; rintro e w' ⟨rfl, hb⟩)
          go_ret
          exact ⟨rfl, hb⟩
        · have b4 := ne_b k4
          by_cases k5 : kind = 5
          · subst k5
            have e : textS 5 text num = decI num := by simp [textS, kindS]
            rw [e]
            clear b1 b2 b3 b4
            go_enter Tryz.func82, Tryz.ntmps82
            go_wp2_with (go_at_call 81; refine (decimal_call num _ h0 h1).mono ?_; rintro e w' ⟨rfl, hb⟩)
            go_ret
            exact ⟨rfl, hb⟩
          · have b5 := ne_b k5
            by_cases k11 : kind = 11
            · subst k11
              have e : textS 11 text num = strOfNums (digs (num % 18446744073709551616).toNat) := by simp [textS]
              rw [e]
              clear b1 b2 b3 b4 b5
              have hu := unsigned_call (num % 18446744073709551616).toNat
              have hq : ((num % 18446744073709551616).toNat : Int) = IntKind.u64.wrap num := by rw [u64w]; omega
              rw [hq] at hu
              have hu2 := fun w => hu w (by omega)
              replace hu2 := Aside0.mk hu2
              clear hu hq e
              go_enter Tryz.func82, Tryz.ntmps82
              go_wp2_with (go_at_call 147; refine (hu2.out _).mono ?_; rintro e w' ⟨rfl, hb⟩)
              go_ret
              exact ⟨rfl, hb⟩
            · have b11 := ne_b k11
              by_cases k6 : kind = 6
              · subst k6
                have e : textS 6 text num = b64 text := by simp [textS]
                rw [e]
                clear b1 b2 b3 b4 b5 b11
                go_enter Tryz.func82, Tryz.ntmps82
                go_wp2_with (go_at_call 148; refine (base64_call text _ ht).mono ?_; rintro e w' ⟨rfl, hb⟩)
                go_ret
                exact ⟨rfl, hb⟩
              · have b6 := ne_b k6
                have e : textS kind text num = text := by simp [textS, kindS, k1, k2, k3, k4, k5, k6, k11]
                rw [e]
                clear e k1 k2 k3 k4 k5 k6 k11
                go_enter Tryz.func82, Tryz.ntmps82
                go_wp2
                go_ret
                exact ⟨rfl, Below.refl _ _⟩
end H
end Go.Proofs.YtkihaebaccdjdaaGreatDoor
