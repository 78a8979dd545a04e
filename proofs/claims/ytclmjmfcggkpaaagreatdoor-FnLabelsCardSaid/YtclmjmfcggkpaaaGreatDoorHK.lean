import Derived.Test.YtclmjmfcggkpaaaGreatDoorPXx0
import Derived.Test.YtclmjmfcggkpaaaGreatDoorHLabel
import Derived.Test.YtclmjmfcggkpaaaGreatDoorPC
import Derived.Test.YtclmjmfcggkpaaaGreatDoorHJ
import Derived.Test.YtclmjmfcggkpaaaGreatDoorHKi
import Derived.Test.YtclmjmfcggkpaaaGreatDoorHI
set_option linter.unusedVariables false
set_option linter.unusedSimpArgs false
namespace Go.Proofs.YtclmjmfcggkpaaaGreatDoor
open Go.RowKit Go.Proofs.YtclmjmfcggkpaaaGreatDoorW.PrintWords Go.Proofs.YtclmjmfcggkpaaaGreatDoorW.PrintLast Go.Proofs.YtclmjmfcggkpaaaGreatDoorW.PrintMore
open PX
namespace H
theorem take_nodup_step {α : Type} [DecidableEq α] (l : List α) (k : Nat) (h : k < l.length) (h1 : (l.take k).Nodup) (h2 : ∀ j : Nat, j < k → l[j]? ≠ l[k]?) : (l.take (k + 1)).Nodup := by
  rw [List.take_succ_eq_append_getElem h, List.nodup_append]
  refine ⟨h1, by simp, ?_⟩
  intro a ha b hb
  obtain rfl : b = l[k] := by simpa using hb
  rintro rfl
  obtain ⟨j, hj, e⟩ := List.mem_iff_getElem.1 ha
  simp only [List.length_take] at hj
  refine h2 j (by omega) ?_
  rw [List.getElem?_eq_getElem h, ← e, List.getElem_take, List.getElem?_eq_getElem]
set_option maxHeartbeats 400000 in
set_option maxRecDepth 100000 in
theorem unlike_call (A0 : Option Addr) (c0 : Nat) (l : List ByteArray) (w : World) (hr : Kd.C Kd.string w A0 l.length l) (hc : l.length ≤ c0) (hl : c0 ≤ 9223372036854775807) :
    Calls Tryz.prog 43 #[.slice A0 l.length c0] w fun e w' => e = .returned (.bool (decide l.Nodup)) ∧ Drawn0 w w' := by
  have HR := Aside0.mk hr
  clear hr
  go_enter Tryz.func43, Tryz.ntmps43
  go_wp2
  go_loopg [9] l.length (fun g v9 w' => ∃ k : Nat, k ≤ l.length ∧ v9 = .int .i64 k ∧ Aside0 (g = l.length - k) ∧ Aside0 (l.take k).Nodup ∧ Aside0 (w' = w))
  case atStart => exact ⟨0, Nat.zero_le _, rfl, ⟨by omega⟩, ⟨by simp⟩, ⟨rfl⟩⟩
  case round =>
    obtain ⟨k, hk, rfl, hg, hn, hw⟩ := hrel
    obtain rfl := hw.out
    clear hw
    rcases Nat.lt_or_ge k l.length with hlt | hge
    · obtain ⟨ad, hA, hx⟩ := Kd.at_string HR.out (k : Int) (by omega) (by omega)
      subst hA
      simp only [Int.toNat_natCast] at hx
      have hkc : k ≤ c0 := by omega
      go_wp2_with fail
      have hek : l[k]? = some (rdOf ByteArray.empty l (k : Int)) := by simp [rdOf, List.getElem?_eq_getElem hlt, hlt]
      generalize rdOf ByteArray.empty l (k : Int) = a at *
      replace hek := Aside0.mk hek
      go_loopg [18] k (fun g v18 w' => ∃ j : Nat, j ≤ k ∧ v18 = .int .i64 j ∧ Aside0 (g = k - j) ∧ Aside0 (∀ m : Nat, m < j → l[m]? ≠ l[k]?) ∧ Aside0 (w' = wr))
      case atStart => exact ⟨0, Nat.zero_le _, rfl, ⟨by omega⟩, ⟨fun m hm => by omega⟩, ⟨rfl⟩⟩
      case round =>
        obtain ⟨j, hj, rfl, hg2, hno, hw⟩ := hrel
        have hw := hw.out
        subst hw
        rcases Nat.lt_or_ge j k with hjlt | hjge
        · obtain ⟨ad', hA, hy⟩ := Kd.at_string HR.out (j : Int) (by omega) (by omega)
          cases hA
          simp only [Int.toNat_natCast] at hy
          have hej : l[j]? = some (rdOf ByteArray.empty l (j : Int)) := by simp [rdOf, List.getElem?_eq_getElem (show j < l.length by omega), show j < l.length by omega]
          generalize rdOf ByteArray.empty l (j : Int) = b at *
          replace hej := Aside0.mk hej
          by_cases e : b = a
          · have hnn : decide l.Nodup = false := decide_eq_false (fun hd => by
              have h3 := (List.pairwise_iff_getElem.1 hd) j k (by omega) hlt hjlt
              have h1 := hej.out
              have h2 := hek.out
              rw [List.getElem?_eq_getElem (show j < l.length by omega)] at h1
              rw [List.getElem?_eq_getElem hlt] at h2
              injection h1 with h1
              injection h2 with h2
              exact h3 (by rw [h1, h2, e]))
            subst e
            clear hx
            go_wp2
            go_ret
            exact ⟨rfl, Drawn0.refl _⟩
          · have e1 : (b.toList == a.toList) = false := by
              rw [beq_eq_false_iff_ne, Ne, ByteArray.toList_eq, ByteArray.toList_eq]
              intro h
              exact e (by cases a; cases b; congr 1; exact Array.ext' h)
            have hno' : Aside0 (∀ m : Nat, m < j + 1 → l[m]? ≠ l[k]?) := ⟨fun m hm => by
              rcases Nat.lt_or_ge m j with h | h
              · exact hno.out m h
              · obtain rfl : m = j := by omega
                rw [hej.out, hek.out]
                exact fun h => e (Option.some.inj h)⟩
            go_wp2
            go_roundg (k - (j + 1))
            case measure => have := hg2.out; omega
            case rel => exact ⟨j + 1, by omega, by go_num, ⟨rfl⟩, hno', ⟨rfl⟩⟩
        · obtain rfl : j = k := by omega
          have hn' : Aside0 (l.take (j + 1)).Nodup := ⟨take_nodup_step l j hlt hn.out hno.out⟩
          go_wp2
          go_roundg (l.length - (j + 1))
          case measure => have := hg.out; omega
          case rel => exact ⟨j + 1, by omega, by go_num, ⟨rfl⟩, hn', ⟨rfl⟩⟩
    · obtain rfl : k = l.length := by omega
      rw [List.take_length] at hn
      go_wp2
      go_ret
      exact ⟨by rw [decide_eq_true hn.out]; rfl, Drawn0.refl _⟩
end H
end Go.Proofs.YtclmjmfcggkpaaaGreatDoor
set_option linter.unusedVariables false
set_option linter.unusedSimpArgs false
namespace Go.Proofs.YtclmjmfcggkpaaaGreatDoor
open Go.RowKit Go.Proofs.YtclmjmfcggkpaaaGreatDoorW.PrintWords Go.Proofs.YtclmjmfcggkpaaaGreatDoorW.PrintLast Go.Proofs.YtclmjmfcggkpaaaGreatDoorW.PrintMore
open PX
namespace H
/-! ### Numbers in decimal -/
def digs (u : Nat) : List Int := (Lib.decDigits u).map fun b => (b.toNat : Int)
theorem digs_small (u : Nat) (h : u < 10) : digs u = [48 + (u : Int)] := by
  unfold digs
  rw [Lib.decDigits, dif_pos h]
  simp [UInt8.toNat_ofNat']
  omega
theorem digs_big (u : Nat) (h : ¬ u < 10) : digs u = digs (u / 10) ++ [48 + ((u % 10 : Nat) : Int)] := by
  unfold digs
  rw [Lib.decDigits, dif_neg h]
  simp [UInt8.toNat_ofNat']
  omega
theorem u64w (n : Int) : IntKind.u64.wrap n = n % 18446744073709551616 := by simp [IntKind.wrap, IntKind.bits, IntKind.signed]
theorem uns_eq : ∀ (n u : Nat), u < 10 ^ n → 1 ≤ n → u < 18446744073709551616 → ∀ acc : List Int, acc.length + n ≤ 1000 → ∀ F, n ≤ F → spec_Unsigned.l0 F (u : Int) acc = some (strOfNums (digs u ++ acc)) := by
  intro n
  induction n with
  | zero => intro u _ h; omega
  | succ n ih =>
    intro u hu _ hlt acc hacc F hF
    match F, hF with
    | F + 1, hF =>
      have e1 : (IntKind.u64.wrap (48 + Int.tmod (u : Int) 10)) % 256 = 48 + ((u % 10 : Nat) : Int) := by
        rw [u64w, Int.tmod_eq_emod_of_nonneg (by omega)]
        omega
      have e2 : IntKind.u64.wrap (Int.tdiv (u : Int) 10) = ((u / 10 : Nat) : Int) := by
        rw [u64w, Int.tdiv_eq_ediv_of_nonneg (by omega)]
        omega
      rw [spec_Unsigned.l0, e1, e2]
      simp only [Option.bind_some]
      rw [if_pos (by simp; omega)]
      by_cases h : u < 10
      · rw [if_pos (by omega), digs_small u h]
        have : u % 10 = u := Nat.mod_eq_of_lt h
        rw [this]
      · rw [if_neg (by omega)]
        have hn : 1 ≤ n := by
          rcases Nat.eq_zero_or_pos n with rfl | h'
          · simp at hu; omega
          · exact h'
        rw [ih (u / 10) (by rw [Nat.pow_succ] at hu; omega) hn (by omega) _ (by simp; omega) F (by omega), digs_big u h]
        simp
theorem unsigned_eq (u : Nat) (h : u < 18446744073709551616) : spec_Unsigned.f 20 (u : Int) = some (strOfNums (digs u)) := by
  have := uns_eq 20 u (by omega) (by omega) h [] (by simp) 20 (Nat.le_refl _)
  simpa [spec_Unsigned.f] using this
theorem ofN_id : ((fun n : Int => UInt8.ofNat n.toNat) ∘ fun b : UInt8 => (b.toNat : Int)) = id := by funext b; simp
theorem decS_pos (n : Nat) : decS (n : Int) = strOfNums (digs n) := by
  unfold decS Lib.itoa
  rw [if_neg (by omega)]
  unfold digs strOfNums
  simp [ofN_id]
theorem decS_neg (n : Nat) : decS (-((n + 1 : Nat) : Int)) = (⟨#[45]⟩ : ByteArray) ++ strOfNums (digs (n + 1)) := by
  unfold decS Lib.itoa
  rw [if_pos (by omega)]
  apply bytes_inj
  have : (-((n + 1 : Nat) : Int)).natAbs = n + 1 := by omega
  rw [this]
  unfold digs strOfNums bytesOf
  simp
theorem decimal_eq (n : Int) (h0 : -9223372036854775808 ≤ n) (h1 : n ≤ 9223372036854775807) : spec_Decimal.f 20 n = some (decS n) := by
  unfold spec_Decimal.f
  by_cases h : n < 0
  · rw [if_pos h]
    obtain ⟨m, rfl⟩ : ∃ m : Nat, n = -((m + 1 : Nat) : Int) := ⟨(-n - 1).toNat, by omega⟩
    have e : IntKind.u64.wrap ((IntKind.u64.wrap (wrap64 (-(wrap64 (-((m + 1 : Nat) : Int) + 1))))) + 1) = ((m + 1 : Nat) : Int) := by
      rw [u64w, u64w]
      unfold wrap64
      omega
    rw [e, unsigned_eq (m + 1) (by omega)]
    simp only [Option.bind_some]
    rw [if_pos, decS_neg]
    rw [strOfNums_size]
    have : (digs (m + 1)).length ≤ 20 := by
      have hl : ∀ k u : Nat, u < 10 ^ k → 1 ≤ k → (digs u).length ≤ k := by
        intro k
        induction k with
        | zero => intro u _ h; omega
        | succ k ih =>
          intro u hu _
          by_cases h : u < 10
          · rw [digs_small u h]; simp
          · rw [digs_big u h]
            have hk : 1 ≤ k := by
              rcases Nat.eq_zero_or_pos k with rfl | h'
              · simp at hu; omega
              · exact h'
            have := ih (u / 10) (by rw [Nat.pow_succ] at hu; omega) hk
            simp
            omega
      exact hl 20 _ (by omega) (by omega)
    omega
  · rw [if_neg h]
    obtain ⟨m, rfl⟩ := Int.eq_ofNat_of_zero_le (show 0 ≤ n by omega)
    have e : IntKind.u64.wrap (m : Int) = (m : Int) := by rw [u64w]; omega
    rw [e, unsigned_eq m (by omega), decS_pos]
    rfl
theorem decimal_call (n : Int) (w : World) (h0 : -9223372036854775808 ≤ n) (h1 : n ≤ 9223372036854775807) :
    Calls Tryz.prog 66 #[.int .i64 n] w fun e w' => e = .returned (.string (decS n)) ∧ Below w.heap.size w w' :=
  spec_Decimal.calls 20 n _ w (decimal_eq n h0 h1)
/-- The text of a value of whatever kind. -/
def textS (kind : Int) (text : ByteArray) (num : Int) : ByteArray :=
  if kind = 6 then b64 text else if kind = 11 then strOfNums (digs (num % 18446744073709551616).toNat) else kindS kind text num
theorem unsigned_call (u : Nat) (w : World) (h : u < 18446744073709551616) : Calls Tryz.prog 67 #[.int .u64 (u : Int)] w fun e w' => e = .returned (.string (strOfNums (digs u))) ∧ Below w.heap.size w w' :=
  spec_Unsigned.calls 20 _ _ w (unsigned_eq u h)
theorem ne_b {a b : Int} (h : a ≠ b) : (a == b) = false := by simpa using h
set_option maxHeartbeats 1000000 in
set_option maxRecDepth 100000 in
theorem text_call (kind : Int) (text : ByteArray) (num : Int) (w : World) (ht : text.size ≤ 2147483647) (h0 : -9223372036854775808 ≤ num) (h1 : num ≤ 9223372036854775807) :
    Calls Tryz.prog 42 #[.int .i64 kind, .string text, .int .i64 num] w fun e w' => e = .returned (.string (textS kind text num)) ∧ Below w.heap.size w w' := by
  have r8 := i8_rng num
  have r16 := i16_rng num
  have r32 := i32_rng num
  by_cases k1 : kind = 1
  · subst k1
    have e : textS 1 text num = boolS (num != 0) := by simp [textS, kindS]
    rw [e]
    by_cases hn : num = 0
    · subst hn
      go_enter Tryz.func42, Tryz.ntmps42
      go_wp2
      go_ret
      exact ⟨rfl, Below.refl _ _⟩
    · have hb : (num != 0) = true := by simpa using hn
      have hbs : boolS (num != 0) = ⟨#[116, 114, 117, 101]⟩ := by rw [hb]; rfl
      rw [hbs]
      clear hbs
      go_enter Tryz.func42, Tryz.ntmps42
      go_wp2
      go_ret
      exact ⟨rfl, Below.refl _ _⟩
  · have b1 := ne_b k1
    by_cases k2 : kind = 2
    · subst k2
      have e : textS 2 text num = decS (IntKind.i8.wrap num) := by simp [textS, kindS]
      rw [e]
      clear b1
      go_enter Tryz.func42, Tryz.ntmps42
      go_wp2_with (go_at_call 66; refine (decimal_call (IntKind.i8.wrap num) _ (by omega) (by omega)).mono ?_; rintro e w' ⟨rfl, hb⟩)
      go_ret
      exact ⟨rfl, hb⟩
    · have b2 := ne_b k2
      by_cases k3 : kind = 3
      · subst k3
        have e : textS 3 text num = decS (IntKind.i16.wrap num) := by simp [textS, kindS]
        rw [e]
        clear b1 b2
        go_enter Tryz.func42, Tryz.ntmps42
        go_wp2_with (go_at_call 66; refine (decimal_call (IntKind.i16.wrap num) _ (by omega) (by omega)).mono ?_; rintro e w' ⟨rfl, hb⟩)
        go_ret
        exact ⟨rfl, hb⟩
      · have b3 := ne_b k3
        by_cases k4 : kind = 4
        · subst k4
          have e : textS 4 text num = decS (wrap32 num) := by simp [textS, kindS]
          rw [e]
          clear b1 b2 b3
          go_enter Tryz.func42, Tryz.ntmps42
          go_wp2_with (go_at_call 66; refine (decimal_call (wrap32 num) _ (by omega) (by omega)).mono ?_; rintro e w' ⟨rfl, hb⟩)
          go_ret
          exact ⟨rfl, hb⟩
        · have b4 := ne_b k4
          by_cases k5 : kind = 5
          · subst k5
            have e : textS 5 text num = decS num := by simp [textS, kindS]
            rw [e]
            clear b1 b2 b3 b4
            go_enter Tryz.func42, Tryz.ntmps42
            go_wp2_with (go_at_call 66; refine (decimal_call num _ h0 h1).mono ?_; rintro e w' ⟨rfl, hb⟩)
            go_ret
            exact ⟨rfl, hb⟩
          · have b5 := ne_b k5
            by_cases k11 : kind = 11
            · subst k11
              have e : textS 11 text num = strOfNums (digs (num % 18446744073709551616).toNat) := by simp [textS]
              rw [e]
              clear b1 b2 b3 b4 b5
              have hu := unsigned_call (num % 18446744073709551616).toNat
              have hq : ((num % 18446744073709551616).toNat : Int) = IntKind.u64.wrap num := by rw [u64w]; omega
              rw [hq] at hu
              have hu2 := fun w => hu w (by omega)
              replace hu2 := Aside0.mk hu2
              clear hu hq e
              go_enter Tryz.func42, Tryz.ntmps42
              go_wp2_with (go_at_call 67; refine (hu2.out _).mono ?_; rintro e w' ⟨rfl, hb⟩)
              go_ret
              exact ⟨rfl, hb⟩
            · have b11 := ne_b k11
              by_cases k6 : kind = 6
              · subst k6
                have e : textS 6 text num = b64 text := by simp [textS]
                rw [e]
                clear b1 b2 b3 b4 b5 b11
                go_enter Tryz.func42, Tryz.ntmps42
                go_wp2_with (go_at_call 68; refine (base64_call text _ ht).mono ?_; rintro e w' ⟨rfl, hb⟩)
                go_ret
                exact ⟨rfl, hb⟩
              · have b6 := ne_b k6
                have e : textS kind text num = text := by simp [textS, kindS, k1, k2, k3, k4, k5, k6, k11]
                rw [e]
                clear e k1 k2 k3 k4 k5 k6 k11
                go_enter Tryz.func42, Tryz.ntmps42
                go_wp2
                go_ret
                exact ⟨rfl, Below.refl _ _⟩
end H
end Go.Proofs.YtclmjmfcggkpaaaGreatDoor
set_option linter.unusedVariables false
set_option linter.unusedSimpArgs false
namespace Go.Proofs.YtclmjmfcggkpaaaGreatDoor
open Go.RowKit Go.Proofs.YtclmjmfcggkpaaaGreatDoorW.PrintWords Go.Proofs.YtclmjmfcggkpaaaGreatDoorW.PrintLast Go.Proofs.YtclmjmfcggkpaaaGreatDoorW.PrintMore
open PX
namespace H
def fText (f : S48) : ByteArray := textS f.f3 f.f4 f.f5
/-- A field that has a label of its own, and a text. -/
def fieldOk (names : List ByteArray) (f : S48) : Bool :=
  decide (f.f0 = 0) && decide (0 ≤ f.f3) && decide (f.f3 ≤ 5) && decide ((fText f).size ≠ 0) && decide ((fText f).size ≤ 1000) && !decide (names ++ [f.f2]).Nodup
def ltGo (names : List ByteArray) (out : List S65) (keys : List ByteArray) : List S48 → Option (List S65 × List ByteArray)
  | [] => some (out, keys)
  | f :: fs => if fieldOk names f then ltGo names (out ++ [⟨f.f2, fText f, false⟩]) (keys ++ [f.f2]) fs else none
def labelTextsB (path : ByteArray) (fs : List S48) : Option (List S65 × Bool) :=
  match labelsB path with
  | none => none
  | some names => if fs.length = names.length then (ltGo names [] [] fs).map (fun p => (p.1, decide p.2.Nodup)) else none
/-- What spec.LabelTexts gives. -/
def LtP (r : Option (List S65 × Bool)) (w : World) (e : Ending) (w' : World) : Prop :=
  Below w.heap.size w w' ∧ match r with
  | none => e = .returned (.tuple #[.slice none 0 0, .bool false])
  | some (l, b) => ∃ v, e = .returned (.tuple #[v, .bool b]) ∧ Kd.R k65 65 w' w.heap.size (fun _ => True) v l
theorem ltP_none {w : World} {e : Ending} {w' : World} (hb : Below w.heap.size w w') (he : e = .returned (.tuple #[.slice none 0 0, .bool false])) : LtP none w e w' := ⟨hb, he⟩
theorem ltP_some {l : List S65} {b : Bool} {w : World} {e : Ending} {w' : World} {v : Value} (hb : Below w.heap.size w w') (hr : Kd.R k65 65 w' w.heap.size (fun _ => True) v l) (he : e = .returned (.tuple #[v, .bool b])) : LtP (some (l, b)) w e w' := ⟨hb, v, he, hr⟩
theorem labels_many {path : ByteArray} {names : List ByteArray} (h : labelsB path = some names) : names.length ≤ 1001 := by
  unfold labelsB at h
  split at h
  · cases h
  · rename_i hc
    have hz : (path.extract 1 path.size).size ≤ 1000 := by simp; omega
    have hpl := parts_len 47 (path.extract 1 path.size)
    have : ∀ (ps acc : List ByteArray) (l : List ByteArray), labelsGo acc ps = some l → l.length ≤ acc.length + ps.length := by
      intro ps
      induction ps with
      | nil => intro acc l h; simp [labelsGo] at h; subst h; simp
      | cons p ps ih =>
        intro acc l h
        simp only [labelsGo] at h
        split at h
        · split at h
          · cases h
          · have := ih _ _ h; simp at this ⊢; omega
        · split at h
          · have := ih _ _ h; simp at this ⊢; omega
          · cases h
    have := this _ _ _ h
    simp at this
    omega
set_option maxHeartbeats 1000000 in
set_option maxRecDepth 100000 in
theorem labelTexts_none (path : ByteArray) (fs : List S48) (A0 : Option Addr) (c0 : Nat) (w : World) (hs : path.size ≤ 2147483647) (hn : fs.length ≤ 2147483647)
    (h : labelsB path = none ∨ ∃ names, labelsB path = some names ∧ fs.length ≠ names.length) : Calls Tryz.prog 13 #[.string path, .slice A0 fs.length c0] w (LtP none w) := by
  have hl := fun w => labels_call path w hs
  replace hl := Aside0.mk hl
  rcases h with h | ⟨names, h, hne⟩
  · rw [h] at hl
    go_enter Tryz.func13, Tryz.ntmps13
    go_wp2_with (go_at_call 41; refine (hl.out _).mono ?_; rintro e w1 ⟨hb, he⟩; subst he)
    go_ret2
    exact ltP_none hb rfl
  · have hm := labels_many h
    rw [h] at hl
    have hne2 : ((fs.length : Int) != (names.length : Int)) = true := by simp; omega
    clear hne h
    go_enter Tryz.func13, Tryz.ntmps13
    go_wp2_with (go_at_call 41; refine (hl.out _).mono ?_; rintro e w1 ⟨hb, v, rfl, hr⟩; obtain ⟨A, c, e⟩ := Kd.R_slice hr; subst e; replace hr := Aside0.mk hr)
    go_ret2
    exact ltP_none hb rfl
/-- What the loop of LabelTexts keeps. -/
structure LtI (w : World) (vn : Value) (names : List ByteArray) (vk : Value) (keys : List ByteArray) (vo : Value) (out : List S65) (w' : World) : Prop where
  below : Below w.heap.size w w'
  nm : w'.ownsRow w.heap.size 9 1 vn names.length (encs Value.string names)
  ks : w'.ownsRow w.heap.size 9 1 vk keys.length (encs Value.string keys)
  ot : Kd.R k65 65 w' w.heap.size (fun _ => True) vo out
  nk : ∀ k, vn.ownBlock = some k → vk.ownBlock ≠ some k
  no : ∀ k, vn.ownBlock = some k → vo.ownBlock ≠ some k
  ko : ∀ k, vk.ownBlock = some k → vo.ownBlock ≠ some k
namespace LtI
variable {w w' w'' : World} {vn vk vo v1 : Value} {names keys : List ByteArray} {out : List S65}
theorem step (h : LtI w vn names vk keys vo out w') (hb : Below w'.heap.size w' w'') : LtI w vn names vk keys vo out w'' :=
  ⟨below_then h.below h.below.size hb, pw_own_below h.nm hb, pw_own_below h.ks hb, Kd.R_below h.ot hb, h.nk, h.no, h.ko⟩
theorem drewN (h : LtI w vn names vk keys vo out w') (n : Nat) : LtI w vn names vk keys vo out (w'.drewN n) := h.step (pw_below_drewN (Below.refl _ _) n)
theorem base (h : LtI w vn names vk keys vo out w') : w.heap.size ≤ w'.heap.size := h.below.size
theorem far {n : Nat} {v : Value} {xs : List Value} (ho : w'.ownsRow w.heap.size 9 1 v n xs) {row : Option Nat} (hg : w'.grownBy w'' row) (hne : ∀ k, v.ownBlock = some k → row ≠ some k) : w''.ownsRow w.heap.size 9 1 v n xs :=
  own_move ho (fun k hk => hg.block k (own_lt ho k hk) (fun e => hne k hk e.symm))
/-- The row of the names has been written behind its end. -/
theorem asked (h : LtI w vn names vk keys vo out w') (hn : w''.ownsRow w.heap.size 9 1 vn names.length (encs Value.string names)) (hg : w'.grownBy w'' vn.ownBlock) : LtI w vn names vk keys vo out w'' :=
  ⟨h.below.grown hg h.base (fun k hk => own_base h.nm k hk), hn, far h.ks hg (fun k hk e => h.nk k e hk), Kd.R_grown2 h.ot rfl hg (fun k hk e => h.no k hk e.symm), h.nk, h.no, h.ko⟩
theorem new_ne {v : Value} {n : Nat} {xs : List Value} (ho : w'.ownsRow w.heap.size 9 1 v n xs) {b : Nat} (hb : w'.heap.size ≤ b) : ∀ k, v.ownBlock = some k → k ≠ b := fun k hk => by have := own_lt ho k hk; omega
theorem addKey (h : LtI w vn names vk keys vo out w') {keys' : List ByteArray} (hk : w''.ownsRow w.heap.size 9 1 v1 keys'.length (encs Value.string keys')) (hg : w'.grownBy w'' vk.ownBlock) (hat : v1.ownBlock = vk.ownBlock ∨ ∃ b, v1.ownBlock = some b ∧ w'.heap.size ≤ b) :
    LtI w vn names v1 keys' vo out w'' := by
  refine ⟨h.below.grown hg h.base (fun k hk => own_base h.ks k hk), far h.nm hg (fun k hk e => h.nk k hk e), hk, Kd.R_grown2 h.ot rfl hg (fun k hk e => h.ko k hk e.symm), ?_, h.no, ?_⟩
  · intro k hk' he
    rcases hat with e | ⟨b, e, hb⟩
    · exact h.nk k hk' (e ▸ he)
    · rw [e] at he; injection he with he; exact new_ne h.nm hb k hk' he.symm
  · intro k hk' he
    rcases hat with e | ⟨b, e, hb⟩
    · exact h.ko k (e ▸ hk') he
    · rw [e] at hk'; injection hk' with hk'; subst hk'
      obtain ⟨i2, h2⟩ := Kd.R_own h.ot
      have := own_lt h2 _ he
      omega
theorem addOut (h : LtI w vn names vk keys vo out w') {out' : List S65} (ho : Kd.R k65 65 w'' w.heap.size (fun _ => True) v1 out') (hg : w'.grownBy w'' vo.ownBlock) (hat : v1.ownBlock = vo.ownBlock ∨ ∃ b, v1.ownBlock = some b ∧ w'.heap.size ≤ b) :
    LtI w vn names vk keys v1 out' w'' := by
  obtain ⟨i2, h2⟩ := Kd.R_own h.ot
  refine ⟨h.below.grown hg h.base (fun k hk => own_base h2 k hk), far h.nm hg (fun k hk e => h.no k hk e), far h.ks hg (fun k hk e => h.ko k hk e), ho, h.nk, ?_, ?_⟩
  · intro k hk' he
    rcases hat with e | ⟨b, e, hb⟩
    · exact h.no k hk' (e ▸ he)
    · rw [e] at he; injection he with he; exact new_ne h.nm hb k hk' he.symm
  · intro k hk' he
    rcases hat with e | ⟨b, e, hb⟩
    · exact h.ko k hk' (e ▸ he)
    · rw [e] at he; injection he with he; exact new_ne h.ks hb k hk' he.symm
end LtI
theorem wpList_unguard {P : Program} {ops : Array Oper} {o : Oper} {rest : List Oper} {a : Act} {Q : Exit → Act → World → Prop} {W : World} (hw : Region.wanted o (yielded ops a.tmps) = true) (h : wpList P ops Q ({ o with guard := none } :: rest) a W) : wpList P ops Q (o :: rest) a W := by
  unfold wpList at h ⊢
  rw [if_pos hw]
  rw [if_pos (by simp [Region.wanted])] at h
  exact h
theorem unlike_own (base : Nat) (l : List ByteArray) (v : Value) (w : World) (b : Bool) (h : w.ownsRow base 9 1 v l.length (encs Value.string l)) (hb : decide l.Nodup = b) : Calls Tryz.prog 43 #[v] w fun e w' => e = .returned (.bool b) ∧ Drawn0 w w' := by
  subst hb
  have hr : Kd.R Kd.string 9 w base (fun _ => True) v l := Kd.R_of_own h (fun _ _ => trivial)
  rcases h.2 with ⟨rfl, h0⟩ | ⟨g, cap, cur, rfl, _, _, hnc, hcm, _, _⟩
  · have := unlike_call none 0 l w (Kd.R_reads' hr).2.2 (by omega) (by omega)
    rw [h0] at this
    exact this
  · exact unlike_call _ cap l w (Kd.R_reads' hr).2.2 hnc (by unfold maxLen at hcm; omega)
set_option maxHeartbeats 2000000 in
set_option maxRecDepth 100000 in
theorem labelTexts_some (path : ByteArray) (fs : List S48) (A0 : Option Addr) (c0 : Nat) (w : World) (hr0 : Kd.C k48 w A0 fs.length fs) (hc0 : fs.length ≤ c0) (hs : path.size ≤ 2147483647)
    (names : List ByteArray) (hL : labelsB path = some names) (hlen : fs.length = names.length) (hz : ∀ f ∈ fs, f.f4.size ≤ 2147483647 ∧ -9223372036854775808 ≤ f.f5 ∧ f.f5 ≤ 9223372036854775807) :
    Calls Tryz.prog 13 #[.string path, .slice A0 fs.length c0] w (LtP (labelTextsB path fs) w) := by
  have hl := fun w => labels_call path w hs
  rw [hL] at hl
  replace hl := Aside0.mk hl
  have hm := labels_many hL
  have e0 : labelTextsB path fs = (ltGo names [] [] fs).map (fun p => (p.1, decide p.2.Nodup)) := by unfold labelTextsB; rw [hL]; simp only; rw [if_pos hlen]
  rw [e0]
  clear e0 hL
  generalize hr : ltGo names [] [] fs = r
  replace hr := Aside0.mk hr
  have hfm : fs.length ≤ 1001 := by omega
  have hne2 : ((fs.length : Int) != (names.length : Int)) = false := by simp; omega
  have HC := Aside0.mk hr0; have HZ := Aside0.mk hz; have HL := Aside0.mk hlen
  clear hr0 hz hlen hs
  go_enter Tryz.func13, Tryz.ntmps13
  go_wp2_with (first | (go_at_call 41; refine (hl.out _).mono ?_; rintro e w1 ⟨hb1, vn, rfl, hrn⟩; obtain ⟨An, cn, en⟩ := Kd.R_slice hrn; subst en; replace hrn := Aside0.mk hrn; replace hb1 := Aside0.mk hb1) | ((with_reducible refine gate_dst (N := 27) rfl ?_); refine Kd.R_lit k65 _ 65 ?hg1 (N := 27) ?hd1 (xs := ([] : List S65)) (inner := []) (ok := fun _ => True) (okp := fun _ => True) ?hr1 ?hp1 (fun _ hk => hk) trivial (Below.refl _ _) (Nat.le_refl _) (by simp) ?_; (case hd1 => rfl); (case hg1 => rfl); (case hr1 => first | (go_simp; done) | (go_simp; rfl)); (case hp1 => exact (Reps.none _ _)); intro vo w2 hoo hbo hg_ hnew_; clear hg_ hnew_; replace hoo := Aside0.mk hoo; replace hbo := Aside0.mk hbo) | ((with_reducible refine gate_dst (N := 28) rfl ?_); refine Kd.R_lit Kd.string _ 9 ?hg2 (N := 28) ?hd2 (xs := ([] : List ByteArray)) (inner := []) (ok := fun _ => True) (okp := fun _ => True) ?hr2 ?hp2 (fun _ hk => hk) trivial (Below.refl _ _) (Nat.le_refl _) (by simp) ?_; (case hd2 => rfl); (case hg2 => rfl); (case hr2 => first | (go_simp; done) | (go_simp; rfl)); (case hp2 => exact (Reps.none _ _)); intro vk w3 hok hbk hg_ hnew_; clear hg_ hnew_; replace hok := Aside0.mk hok; replace hbk := Aside0.mk hbk))
  have HI : LtI w (.slice An names.length cn) names vk [] vo [] w3 := by
    have hb2 := below_then hb1.out hb1.out.size hbo.out
    have hb3 := below_then hb2 hb2.size hbk.out
    have hn1 := Kd.own_of_R hrn.out
    obtain ⟨i2, h2⟩ := Kd.R_own hoo.out
    have h3 := Kd.own_of_R hok.out
    refine ⟨hb3, pw_own_below (pw_own_below hn1 hbo.out) hbk.out, own_low h3 hb2.size, Kd.R_lower (Kd.R_below hoo.out hbk.out) hb1.out.size, ?_, ?_, ?_⟩
    · intro k hk he
      have a := own_lt hn1 k hk
      have b := own_base h3 k he
      have := hbo.out.size
      omega
    · intro k hk he
      have a := own_lt hn1 k hk
      have b := own_base h2 k he
      omega
    · intro k hk he
      have a := own_base h3 k hk
      have b := own_lt h2 k he
      omega
  replace HI := Aside0.mk HI
  clear hb1 hrn hoo hbo hok hbk
  go_loopg [8, 9, 31] fs.length (fun g v8 v9 v31 w' => ∃ (k : Nat) (out : List S65) (keys : List ByteArray), k ≤ fs.length ∧ v31 = .int .i64 k ∧ Aside0 (g = fs.length - k) ∧ Aside0 (ltGo names out keys (fs.drop k) = r) ∧ Aside0 (keys.length ≤ k ∧ out.length ≤ k) ∧ Aside0 (LtI w (.slice An names.length cn) names v9 keys v8 out w'))
  case atStart => exact ⟨0, [], [], Nat.zero_le _, rfl, ⟨by omega⟩, ⟨by simpa using hr.out⟩, ⟨by simp⟩, HI⟩
  case round =>
    clear HI hr
    obtain ⟨k, out, keys, hk, rfl, hg, hr, hkl, HI⟩ := hrel
    rcases Nat.lt_or_ge k fs.length with hlt | hge
    · obtain ⟨ad, hA, x0, x1, x2, x3, x4, x5⟩ := at_T48 HC.out (k : Int) (by omega) (by omega)
      subst hA
      have hbw := HI.out.below
      replace x0 := (hbw.cell (World.block_lt_of_cell? w _ x0)).trans x0
      replace x1 := (hbw.cell (World.block_lt_of_cell? w _ x1)).trans x1
      replace x2 := (hbw.cell (World.block_lt_of_cell? w _ x2)).trans x2
      replace x3 := (hbw.cell (World.block_lt_of_cell? w _ x3)).trans x3
      replace x4 := (hbw.cell (World.block_lt_of_cell? w _ x4)).trans x4
      replace x5 := (hbw.cell (World.block_lt_of_cell? w _ x5)).trans x5
      simp only [Int.toNat_natCast] at x0 x1 x2 x3 x4 x5
      clear hbw
      have hfk : fs[k]? = some (rd_T48 fs (k : Int)) := by simp [rd_T48, List.getElem?_eq_getElem hlt, hlt]
      have hzf := HZ.out _ (List.mem_of_getElem? hfk)
      have hdr : fs.drop k = rd_T48 fs (k : Int) :: fs.drop (k + 1) := by
        rw [List.drop_eq_getElem_cons hlt]
        congr 1
        rw [List.getElem?_eq_getElem hlt] at hfk
        exact Option.some.inj hfk
      have hgo := hr.out
      rw [hdr] at hgo
      simp only [ltGo] at hgo
      replace hgo := Aside0.mk hgo
      clear hfk hdr hr
      generalize rd_T48 fs (k : Int) = f at *
      go_wp2_with fail
      have hbx := heap_new wr (.cells #[.int .i64 f.f0, .string f.f1, .string f.f2, .int .i64 f.f3, .string f.f4, .int .i64 f.f5] 48)
      have hba := below_alloc (Below.refl wr.heap.size wr) (.cells #[.int .i64 f.f0, .string f.f1, .string f.f2, .int .i64 f.f3, .string f.f4, .int .i64 f.f5] 48)
      refine (text_call f.f3 f.f4 f.f5 _ hzf.1 hzf.2.1 hzf.2.2).mono ?_
      rintro e w5 ⟨rfl, hb5⟩
      replace hbx := (hb5.block _ (lt_of hbx)).trans hbx
      have hb5' : Below wr.heap.size wr w5 := below_then hba hba.size hb5
      have hfv := Aside0.mk (And.intro (own_lt HI.out.nm) (And.intro (own_lt HI.out.ks) (Kd.R_lt HI.out.ot)))
      replace HI := Aside0.mk (HI.out.step hb5')
      have hlt5 := lt_of hbx
      have z0 := cell_at hbx 0; have z1 := cell_at hbx 1; have z2 := cell_at hbx 2; have z3 := cell_at hbx 3; have z4 := cell_at hbx 4; have z5 := cell_at hbx 5
      simp at z0 z1 z2 z3 z4 z5
      clear x0 x1 x2 x3 x4 x5 hba hb5 hb5'
      have hFT : Aside0 (fText f = textS f.f3 f.f4 f.f5) := ⟨rfl⟩
      generalize textS f.f3 f.f4 f.f5 = t at *
      replace hbx := Aside0.mk hbx
      have hbase := HI.out.base
      generalize wr.heap.size = bx at *
      by_cases k0 : f.f0 = 0
      · have b0 : (f.f0 != 0) = false := by simp [k0]
        by_cases k1 : 0 ≤ f.f3
        · have b1 : decide (f.f3 < 0) = false := decide_eq_false (by omega)
          by_cases k2 : f.f3 ≤ 5
          · have b2 : decide (5 < f.f3) = false := decide_eq_false (by omega)
            by_cases k3 : t.size = 0
            · have b3 : t.toList.isEmpty = true := by rw [(toList_nil t).2 k3]; rfl
              have hrn : none = r := by
                have h := hgo.out
                rw [if_neg (by simp [fieldOk, hFT.out, k3])] at h
                exact h
              subst hrn
              clear k3
              go_wp2
              go_ret2
              exact ltP_none HI.out.below rfl
            · have b3 : t.toList.isEmpty = false := by
                have : t.toList ≠ [] := by rw [Ne, toList_nil]; exact k3
                simpa using this
              by_cases k4 : t.size ≤ 1000
              · have b4 : decide (1000 < (t.size : Int)) = false := decide_eq_false (by omega)
                have hal := hkl.out
                cases h5 : decide (names ++ [f.f2]).Nodup with
                | true =>
                  have hrn : none = r := by
                    have h := hgo.out
                    rw [if_neg (by simp [fieldOk, of_decide_eq_true h5])] at h
                    exact h
                  subst hrn
                  obtain ⟨B5, hB5⟩ : ∃ B5, B5 = true := ⟨_, rfl⟩
                  rw [← hB5] at h5
                  replace h5 := Aside0.mk h5
                  clear k0 k1 k2 k3 k4
                  go_wp2_with (first | ((with_reducible refine gate_builtin (b := .append) (xs := #[.tmp 65, .tmp 68]) rfl ?_); at_builtin; refine wpList_unguard ?aG ?_; (case aG => rfl); refine append_keepS w.heap.size rfl (.tmp 65) (.tmp 68) 67 9 16 rfl Tryz.underlying67 info9 (.slice An names.length cn) names f.f2 rfl rfl ?aO ?aB ?aM ?aL ?_; (case aO => exact HI.out.nm); (case aB => exact HI.out.base); (case aM => omega); (case aL => omega); intro v6 w6 ho6 hn6 hg6; have hbx6 := Aside0.mk ((hg6.block bx hlt5 (fun e => Nat.lt_irrefl _ (hfv.out.1 bx e.symm))).trans hbx.out); have HI6 := Aside0.mk (HI.out.asked hn6 hg6); replace ho6 := Aside0.mk ho6; clear hn6 hg6) | (go_at_call 43; refine (unlike_own w.heap.size (names ++ [f.f2]) v6 w6 B5 ho6.out h5.out).mono ?_; rintro e w7 ⟨rfl, ⟨nd7, e7⟩⟩; have hb7 := (show Below w6.heap.size w6 w7 from e7 ▸ pw_below_drewN (Below.refl _ _) nd7); clear e7; have hbx7 := Aside0.mk ((hb7.block _ (lt_of hbx6.out)).trans hbx6.out); have HI7 := Aside0.mk (HI6.out.step hb7); have z20 := cell_at hbx7.out 2; simp at z20; clear hb7))
                  go_ret2
                  exact ltP_none HI7.out.below rfl
                | false =>
                  have hgo2 : Aside0 (ltGo names (out ++ [⟨f.f2, t, false⟩]) (keys ++ [f.f2]) (fs.drop (k + 1)) = r) := ⟨by
                    have h := hgo.out
                    rw [if_pos (by simp [fieldOk, hFT.out, k0, k1, k2, k3, k4, h5]), hFT.out] at h
                    exact h⟩
                  replace h5 := Aside0.mk h5
                  clear k0 k1 k2 k3 k4
                  go_wp2_with (first | ((with_reducible refine gate_builtin (b := .append) (xs := #[.tmp 65, .tmp 68]) rfl ?_); at_builtin; refine wpList_unguard ?aG ?_; (case aG => rfl); refine append_keepS w.heap.size rfl (.tmp 65) (.tmp 68) 67 9 16 rfl Tryz.underlying67 info9 (.slice An names.length cn) names f.f2 rfl rfl ?aO ?aB ?aM ?aL ?_; (case aO => exact HI.out.nm); (case aB => exact HI.out.base); (case aM => omega); (case aL => omega); intro v6 w6 ho6 hn6 hg6; have hbx6 := Aside0.mk ((hg6.block bx hlt5 (fun e => Nat.lt_irrefl _ (hfv.out.1 bx e.symm))).trans hbx.out); have HI6 := Aside0.mk (HI.out.asked hn6 hg6); replace ho6 := Aside0.mk ho6; clear hn6 hg6) | (go_at_call 43; refine (unlike_own w.heap.size (names ++ [f.f2]) v6 w6 false ho6.out h5.out).mono ?_; rintro e w7 ⟨rfl, ⟨nd7, e7⟩⟩; have hb7 := (show Below w6.heap.size w6 w7 from e7 ▸ pw_below_drewN (Below.refl _ _) nd7); clear e7; have hbx7 := Aside0.mk ((hb7.block _ (lt_of hbx6.out)).trans hbx6.out); have HI7 := Aside0.mk (HI6.out.step hb7); have z20 := cell_at hbx7.out 2; simp at z20; clear hb7) | ((with_reducible refine gate_builtin (b := .append) (xs := #[.tmp 72, .tmp 75]) rfl ?_); at_builtin; refine Kd.R_append Kd.string (w0 := w) w.heap.size rfl (.tmp 72) (.tmp 75) 67 9 (.string ⟨#[]⟩) 16 rfl Tryz.underlying67 info9 rfl (by decide) (by omega) u9 keys f.f2 [.string f.f2] (fun _ => True) (fun _ => False) rfl rfl ?aP (fun _ hk => hk.elim) ?aF ?aO ?aB ?aS ?aL ?_; (case aP => exact rfl); (case aB => exact HI7.out.below); (case aF => exact (fun _ _ => trivial)); (case aO => exact Kd.R_of_own HI7.out.ks (fun _ _ => trivial)); (case aS => exact HI7.out.base); (case aL => omega); intro v8 w8 ho8 hb8 hg8 hat8; have hbx8 := Aside0.mk ((hg8.block bx (lt_of hbx7.out) (fun e => Nat.lt_irrefl _ (hfv.out.2.1 bx e.symm))).trans hbx7.out); have HI8 := Aside0.mk (HI7.out.addKey (Kd.own_of_R ho8) hg8 hat8); have z21 := cell_at hbx8.out 2; simp at z21; clear ho8 hb8 hg8 hat8) | ((with_reducible refine gate_builtin (b := .append) (xs := #[.tmp 77, .tmp 82]) rfl ?_); at_builtin; refine Kd.R_append k65 (w0 := w) w.heap.size rfl (.tmp 77) (.tmp 82) 23 65 (.agg #[(.string ⟨#[]⟩), (.string ⟨#[]⟩), (.bool false)]) 40 rfl Tryz.underlying23 info65 rfl (by decide) (by omega) u8 out ⟨f.f2, t, false⟩ [.string f.f2, .string t, .bool false] (fun _ => True) (fun _ => False) rfl rfl ?aP (fun _ hk => hk.elim) ?aF ?aO ?aB ?aS ?aL ?_; (case aP => exact ⟨_, _, rfl, rfl, ⟨_, _, rfl, rfl, rfl⟩⟩); (case aB => exact HI8.out.below); (case aF => exact (fun _ _ => trivial)); (case aO => exact HI8.out.ot); (case aS => exact HI8.out.base); (case aL => omega); intro v9 w9 ho9 hb9 hg9 hat9; have HI9 := Aside0.mk (HI8.out.addOut ho9 hg9 hat9); clear ho9 hb9 hg9 hat9))
                  go_roundg (fs.length - (k + 1))
                  case measure => have := hg.out; omega
                  case rel => exact ⟨k + 1, out ++ [⟨f.f2, t, false⟩], keys ++ [f.f2], by omega, by go_num, ⟨rfl⟩, hgo2, ⟨by simp; omega⟩, HI9⟩
              · have b4 : decide (1000 < (t.size : Int)) = true := decide_eq_true (by omega)
                have hrn : none = r := by
                  have h := hgo.out
                  rw [if_neg (by simp [fieldOk, hFT.out, k4])] at h
                  exact h
                subst hrn
                clear k4
                go_wp2
                go_ret2
                exact ltP_none HI.out.below rfl
          · have b2 : decide (5 < f.f3) = true := decide_eq_true (by omega)
            have hrn : none = r := by
              have h := hgo.out
              rw [if_neg (by simp [fieldOk, hFT.out, k2])] at h
              exact h
            subst hrn
            clear k2
            go_wp2
            go_ret2
            exact ltP_none HI.out.below rfl
        · have b1 : decide (f.f3 < 0) = true := decide_eq_true (by omega)
          have hrn : none = r := by
            have h := hgo.out
            rw [if_neg (by simp [fieldOk, hFT.out, k1])] at h
            exact h
          subst hrn
          clear k1
          go_wp2
          go_ret2
          exact ltP_none HI.out.below rfl
      · have b0 : (f.f0 != 0) = true := by simpa using k0
        have hrn : none = r := by
          have h := hgo.out
          rw [if_neg (by simp [fieldOk, hFT.out, k0])] at h
          exact h
        subst hrn
        clear k0
        go_wp2
        go_ret2
        exact ltP_none HI.out.below rfl
    · obtain rfl : k = fs.length := by omega
      have hrn : some (out, keys) = r := by have := hr.out; rw [List.drop_length] at this; exact this
      subst hrn
      go_wp2_with (go_at_call 43; refine (unlike_own w.heap.size keys u9 _ _ HI.out.ks rfl).mono ?_; rintro e w7 ⟨rfl, ⟨nd7, e7⟩⟩; have hb7 := (show Below wr.heap.size wr w7 from e7 ▸ pw_below_drewN (Below.refl _ _) nd7); clear e7; have HI7 := Aside0.mk (HI.out.step hb7); clear hb7)
      go_ret2
      exact ltP_some HI7.out.below HI7.out.ot rfl
theorem labelTexts_call (path : ByteArray) (fs : List S48) (A0 : Option Addr) (c0 : Nat) (w : World) (hr0 : Kd.C k48 w A0 fs.length fs) (hc0 : fs.length ≤ c0) (hs : path.size ≤ 2147483647) (hn : fs.length ≤ 2147483647)
    (hz : ∀ f ∈ fs, f.f4.size ≤ 2147483647 ∧ -9223372036854775808 ≤ f.f5 ∧ f.f5 ≤ 9223372036854775807) :
    Calls Tryz.prog 13 #[.string path, .slice A0 fs.length c0] w (LtP (labelTextsB path fs) w) := by
  cases h : labelsB path with
  | none =>
    have e : labelTextsB path fs = none := by unfold labelTextsB; rw [h]
    rw [e]
    exact labelTexts_none path fs A0 c0 w hs hn (.inl h)
  | some names =>
    by_cases hl : fs.length = names.length
    · exact labelTexts_some path fs A0 c0 w hr0 hc0 hs names h hl hz
    · have e : labelTextsB path fs = none := by unfold labelTextsB; rw [h]; exact if_neg hl
      rw [e]
      exact labelTexts_none path fs A0 c0 w hs hn (.inr ⟨names, h, hl⟩)
end H
end Go.Proofs.YtclmjmfcggkpaaaGreatDoor
