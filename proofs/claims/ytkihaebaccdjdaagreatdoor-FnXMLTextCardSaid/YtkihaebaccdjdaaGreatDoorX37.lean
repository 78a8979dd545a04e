import Derived.Test.YtkihaebaccdjdaaGreatDoorX32
import Derived.Test.YtkihaebaccdjdaaGreatDoorX36
import Derived.Test.YtkihaebaccdjdaaGreatDoorX35
import Derived.Test.YtkihaebaccdjdaaGreatDoorX5
set_option linter.unusedVariables false
set_option linter.unusedSimpArgs false
namespace Go.Proofs.YtkihaebaccdjdaaGreatDoor
open Go.RowKit Go.Proofs.YtkihaebaccdjdaaGreatDoorW.PrintWords Go.Proofs.YtkihaebaccdjdaaGreatDoorW.PrintLast Go.Proofs.YtkihaebaccdjdaaGreatDoorW.PrintMore
open PX
namespace H
/-! ### What spec.isWord says (plain) -/
def wc (c : Int) : Prop := (97 ≤ c ∧ c ≤ 122) ∨ (65 ≤ c ∧ c ≤ 90) ∨ (48 ≤ c ∧ c ≤ 57)
theorem word_l0 {s : ByteArray} (hs : s.size ≤ 2147483647) : ∀ (n i k : Nat), n = s.size - i → i ≤ s.size → n + 1 ≤ k → (∀ j : Nat, j < i → wc (bt s (j : Int))) →
 ∃ wd, spec_isWord.l0 k s (s.size : Int) (i : Int) = some wd ∧ (wd = true → s.size ≠ 0 ∧ s.size ≤ 50 ∧ ∀ j : Nat, j < s.size → wc (bt s (j : Int))) := by
 intro n
 induction n with
 | zero =>
   intro i k hn hi hk hj
   obtain rfl : i = s.size := by omega
   obtain ⟨k, rfl⟩ : ∃ q, k = q + 1 := ⟨k - 1, by omega⟩
   rw [spec_isWord.l0, if_neg (by omega)]
   split
   ·exact ⟨false, rfl, fun h => by cases h⟩
   ·rename_i hne
    refine ⟨_, rfl, fun h => ⟨fun h0 => hne ?_, ?_, hj⟩⟩
    ·exact (toList_eq_iff s ⟨#[]⟩).2 (by rw [List.eq_nil_of_length_eq_zero (l := bytesOf s) (by rw [bytesOf_length, h0])]; rfl) |>.trans (by simp [ByteArray.toList_eq])
    ·have := of_decide_eq_true h
     omega
 | succ n ih =>
   intro i k hn hi hk hj
   obtain ⟨k, rfl⟩ : ∃ q, k = q + 1 := ⟨k - 1, by omega⟩
   have e : wrap64 ((i : Int) + 1) = ((i + 1 : Nat) : Int) := by unfold wrap64; omega
   have step : wc (bt s (i : Int)) → ∃ wd, spec_isWord.l0 k s (s.size : Int) ((i + 1 : Nat) : Int) = some wd ∧ (wd = true → s.size ≠ 0 ∧ s.size ≤ 50 ∧ ∀ j : Nat, j < s.size → wc (bt s (j : Int))) := fun hc =>
    ih (i + 1) k (by omega) (by omega) (by omega) (fun j hj2 => by
     rcases Nat.lt_or_ge j i with h | h
     ·exact hj j h
     ·obtain rfl : j = i := by omega
      exact hc)
   rw [spec_isWord.l0, if_pos (by omega), if_pos (by omega), if_pos (by omega), e]
   repeat' split
   all_goals first
   | exact ⟨false, rfl, fun h => by cases h⟩
   | exact step (by unfold wc; omega)
theorem word_f (s : ByteArray) (hs : s.size ≤ 2147483647) : ∃ wd, spec_isWord.f (s.size + 1) s = some wd ∧ (wd = true → s.size ≠ 0 ∧ s.size ≤ 50 ∧ ∀ c ∈ bytesOf s, wc c) := by
 obtain ⟨wd, h1, h2⟩ := word_l0 hs s.size 0 (s.size + 1) (by omega) (by omega) (by omega) (fun j hj => by omega)
 refine ⟨wd, h1, fun h => ⟨(h2 h).1, (h2 h).2.1, fun c hc => ?_⟩⟩
 obtain ⟨j, hj, rfl⟩ := List.mem_iff_getElem.1 hc
 have := (h2 h).2.2 j (by rw [← bytesOf_length]; exact hj)
 rw [bt_getD s j (by rw [← bytesOf_length]; exact hj), List.getD_eq_getElem?_getD, List.getElem?_eq_getElem hj] at this
 exact this
end H
end Go.Proofs.YtkihaebaccdjdaaGreatDoor
set_option linter.unusedVariables false
set_option linter.unusedSimpArgs false
namespace Go.Proofs.YtkihaebaccdjdaaGreatDoor
open Go.RowKit Go.Proofs.YtkihaebaccdjdaaGreatDoorW.PrintWords Go.Proofs.YtkihaebaccdjdaaGreatDoorW.PrintLast Go.Proofs.YtkihaebaccdjdaaGreatDoorW.PrintMore
open PX
namespace H
/-! ### The bytes of an element with one attribute and a text (plain) -/
theorem word_flat : ∀ l : List Int, (∀ c ∈ l, wc c) → l.flatMap utf8E = l ∧ l.flatMap xescR = l
 | [], _ => ⟨rfl, rfl⟩
 | c :: l, h => by
   have hc : wc c := h c (by simp)
   unfold wc at hc
   obtain ⟨h1, h2⟩ := word_flat l (fun d hd => h d (by simp [hd]))
   have e1 : utf8E c = [c] := by unfold utf8E; rw [if_pos (by omega)]
   have e2 : xescR c = [c] := by
    have : xname c = none := by
     unfold xname
     rw [if_neg (by omega), if_neg (by omega), if_neg (by omega), if_neg (by omega), if_neg (by omega), if_neg (by omega), if_neg (by omega), if_neg (by omega), if_neg (by omega), if_neg (by omega)]
    unfold xescR
    rw [this]
    exact e1
   rw [List.flatMap_cons, List.flatMap_cons, h1, h2, e1, e2]
   exact ⟨rfl, rfl⟩
theorem wc_ok {c : Int} (h : wc c) : okR c ∧ charB c = true := by
 unfold wc at h
 refine ⟨⟨by omega, by omega, by omega⟩, ?_⟩
 simp only [charB, decide_eq_true_eq]
 omega
theorem xs_word (name : ByteArray) (h : ∀ c ∈ bytesOf name, wc c) : xs_ name = bytesOf name ∧ U8 charB (bytesOf name) := by
 obtain ⟨h1, h2⟩ := word_flat _ h
 refine ⟨?_, bytesOf name, fun c hc => wc_ok (h c hc), h1.symm⟩
 have := xesc_signs (bytesOf name) (fun c hc => wc_ok (h c hc)) name.size (by rw [h1, bytesOf_length]; omega)
 rw [h1, h2] at this
 exact this
theorem xt_bytes (name s : ByteArray) (hw : ∀ c ∈ bytesOf name, wc c) (hu : U8 charB (bytesOf s)) :
 XRead (xs_ s) (bytesOf s) ∧ U8 charB (bytesOf (strOfNums (xtext name s))) ∧ bytesOf (strOfNums (xtext name s)) = 60 :: (bytesOf name ++ 32 :: 97 :: 61 :: 34 :: (xs_ s ++ 34 :: 62 :: (xs_ s ++ 60 :: 47 :: (bytesOf name ++ [62])))) := by
 obtain ⟨hx1, hx2⟩ := xesc_good hu s.size (by rw [bytesOf_length]; omega)
 obtain ⟨hn1, hn2⟩ := xs_word name hw
 have ha : xs_ (⟨#[97]⟩ : ByteArray) = [97] := (xs_word ⟨#[97]⟩ (by intro c hc; have : c = 97 := by simpa [bytesOf] using hc
                                                                    subst this; unfold wc; omega)).1.trans (by decide)
 have e : xtext name s = 60 :: (bytesOf name ++ 32 :: 97 :: 61 :: 34 :: (xs_ s ++ 34 :: 62 :: (xs_ s ++ 60 :: 47 :: (bytesOf name ++ [62])))) := by
  unfold xtext xats xat
  simp [ha, hn1]
  rfl
 have hU : U8 charB (xtext name s) := by
  rw [e]
  have a1 : ∀ l : List Int, U8 charB l → ∀ c : Int, 32 ≤ c → c < 127 → U8 charB (c :: l) := fun l hl c h0 h1 => by
   have hc : okR c ∧ charB c = true := ⟨⟨by omega, by omega, by omega⟩, by simp only [charB, decide_eq_true_eq]; omega⟩
   have e1 : utf8E c = [c] := by unfold utf8E; rw [if_pos (by omega)]
   have := (show U8 charB [c] from ⟨[c], by simpa using hc, by simp [e1]⟩).app hl
   simpa using this
  exact a1 _ (hn2.app (a1 _ (a1 _ (a1 _ (a1 _ (hx1.app (a1 _ (a1 _ (hx1.app (a1 _ (a1 _ (hn2.app (a1 _ (U8.nil _) 62 (by decide) (by decide))) 47 (by decide) (by decide)) 60 (by decide) (by decide))) 62 (by decide) (by decide)) 34 (by decide) (by decide))) 34 (by decide) (by decide)) 61 (by decide) (by decide)) 97 (by decide) (by decide)) 32 (by decide) (by decide))) 60 (by decide) (by decide)
 have hb := bytes_nums _ hU.rng
 exact ⟨hx2, by rw [hb]; exact hU, by rw [hb]; exact e⟩
theorem xrep_len {r : Int} {k : Nat} {y : List Int} (h : xrep r k = some y) : y.length ≤ 8 := by
 unfold xrep at h
 cases hn : xname r with
 | some nm =>
   rw [hn] at h
   obtain rfl := Option.some.inj h
   rcases xname_cases hn with h1 | h1 | h1 | h1 | h1 | h1 | h1 | h1 | h1 | h1
   all_goals
    obtain ⟨_, rfl⟩ := h1
    decide
 | none =>
   rw [hn] at h
   simp only at h
   split at h
   ·obtain rfl := Option.some.inj h
    decide
   ·cases h
theorem xesc_len : ∀ (k : Nat) (l : List Int), (xesc k l).length ≤ 8 * l.length
 | 0, l => by simp [xesc]
 | k + 1, [] => by simp [xesc]
 | k + 1, c :: l => by
   have hd := decL_pos (c :: l) (by simp)
   have ih2 := xesc_len k ((c :: l).drop (decL (c :: l)).2)
   rw [List.length_drop] at ih2
   unfold xesc
   split
   ·rename_i y hy
    have hy2 := xrep_len hy
    simp only [List.length_append] at *; simp only [List.length_cons] at *; omega
   ·simp only [List.length_append, List.length_take] at *; simp only [List.length_cons] at *; omega
theorem xt_len (name s : ByteArray) (hn : name.size ≤ 50) (hs : s.size ≤ 5000) : (xtext name s).length ≤ 100000 := by
 have h1 := xesc_len s.size (bytesOf s)
 have h2 := xesc_len name.size (bytesOf name)
 have h3 := xesc_len (⟨#[97]⟩ : ByteArray).size (bytesOf ⟨#[97]⟩)
 rw [bytesOf_length] at h1 h2 h3
 have h4 : (⟨#[97]⟩ : ByteArray).size = 1 := rfl
 rw [h4] at h3
 unfold xtext xats xat xs_
 simp only [List.flatMap_cons, List.flatMap_nil, List.length_append, List.length_cons, List.length_nil]
 rw [h4, if_pos (show (⟨#[]⟩ : ByteArray).size = 0 from rfl)]
 simp only [List.length_append, List.length_cons, List.length_nil] at *
 omega
end H
end Go.Proofs.YtkihaebaccdjdaaGreatDoor
namespace Go.Proofs.YtkihaebaccdjdaaGreatDoor.PX
open Go.RowKit Go.Proofs.YtkihaebaccdjdaaGreatDoorW.PrintWords Go.Proofs.YtkihaebaccdjdaaGreatDoorW.PrintLast Go.Proofs.YtkihaebaccdjdaaGreatDoorW.PrintMore
attribute [local go_sem] max2_int min2_int max_two min_two max_three min_three max_four min_four   -- for this text's walks alone
set_option linter.unusedVariables false
set_option linter.unusedSimpArgs false

/-! ### spec_cut: function 32 -/
def spec_cut.l0 : Nat → ByteArray → Int → Int → Int → Option (ByteArray × ByteArray × Bool)
 | 0, _, _, _, _ => none
 | k + 1, x0, x1, x9, x10 => if x10 < x9 then (if 0 ≤ x10 then (if x10 < (x0.size : Int) then (if (bt x0 x10) = x1 then (if x10 ≤ (x0.size : Int) then (if 0 ≤ (wrap64 (x10 + 1)) then (if (wrap64 (x10 + 1)) ≤ (x0.size : Int) then (some (x0.extract 0 (x10 : Int).toNat, x0.extract ((wrap64 (x10 + 1)) : Int).toNat x0.size, true)) else (none)) else (none)) else (none)) else (spec_cut.l0 k x0 x1 x9 (wrap64 (x10 + 1)))) else (none)) else (none)) else (some (x0, (⟨#[]⟩ : ByteArray), false))
def spec_cut.f (k : Nat) (a0 : ByteArray) (a1 : Int) : Option (ByteArray × ByteArray × Bool) := spec_cut.l0 k a0 a1 (a0.size : Int) 0
set_option maxHeartbeats 8000000 in
set_option maxRecDepth 100000 in
theorem spec_cut.calls (k : Nat) (a0 : ByteArray) (a1 : Int) (r1 : ByteArray) (r2 : ByteArray) (r3 : Bool) (w : World) (h : spec_cut.f k a0 a1 = some (r1, r2, r3)) :
 Calls Tryz.prog 32 #[.string a0, .int .u8 a1] w fun e w' => e = .returned (.tuple #[.string r1, .string r2, .bool r3]) ∧ Drawn0 w w' := by
 have H : (spec_cut.l0 k a0 a1 (a0.size : Int) 0) = some (r1, r2, r3) := h
 clear h
 have H' := Aside0.mk H
 clear H
 go_enter Tryz.func32, Tryz.ntmps32
 go_wp2
 repeat (go_quiet (fail); try go_wp2)
 go_loopg [10] k (fun kq v10 w' => ∃ (x10_1 : Int), v10 = .int .i64 x10_1 ∧ Aside0 (spec_cut.l0 kq a0 a1 (a0.size : Int) x10_1 = some (r1, r2, r3)) ∧ Aside0 (kq ≤ k) ∧ Drawn0 w w')
 case atStart => exact ⟨(0), (by first | rfl | (simp; done) | (simp [*]; done)), H', ⟨Nat.le_refl _⟩, by repeat (first | exact Drawn0.refl _ | apply Drawn0.step)⟩
 case round =>
  clear H'
  try clear p2
  obtain ⟨x10_1, rfl, HA, HK1, ⟨m1, rfl⟩⟩ := hrel
  cases gk with
  | zero => exact absurd HA.out (by simp [spec_cut.l0])
  | succ k1 =>
    have H := HA.out
    clear HA
    simp only [spec_cut.l0] at H
    by_cases c3 : x10_1 < (a0.size : Int)
    ·rw [if_pos c3] at H
     have c3b0 : decide (x10_1 < (a0.size : Int)) = true := decide_eq_true c3
     clear c3
     by_cases c4 : 0 ≤ x10_1
     ·rw [if_pos c4] at H
      have c4b0 : decide (0 ≤ x10_1) = true := decide_eq_true c4
      clear c4
      by_cases c5 : x10_1 < (a0.size : Int)
      ·rw [if_pos c5] at H
       have c5b0 : decide (x10_1 < (a0.size : Int)) = true := decide_eq_true c5
       clear c5
       by_cases c7 : (bt a0 x10_1) = a1
       ·rw [if_pos c7] at H
        have c7b0 : ((bt a0 x10_1) == a1) = true := beq_iff_eq.mpr c7
        have c7b1 : ((bt a0 x10_1) != a1) = false := bne_eq_false_iff_eq.mpr c7
        clear c7
        have c8b0 := eq_true (of_decide_eq_true (by first | (with_reducible assumption) | assumption) : 0 ≤ x10_1)
        by_cases c9 : x10_1 ≤ (a0.size : Int)
        ·rw [if_pos c9] at H
         have c9b0 := eq_true c9
         have c9b1 : decide (x10_1 ≤ (a0.size : Int)) = true := decide_eq_true c9
         clear c9
         obtain ⟨ji10, hji10⟩ : ∃ j_ : Int, (wrap64 (x10_1 + 1)) = j_ := ⟨_, rfl⟩
         replace H : (if 0 ≤ (ji10) then (if (ji10) ≤ (a0.size : Int) then (some (a0.extract 0 (x10_1 : Int).toNat, a0.extract ((ji10) : Int).toNat a0.size, true)) else (none)) else (none)) = some (r1, r2, r3) := by (rw [hji10] at H; exact H)
         have hji10w : (IntKind.i64.wrap (x10_1 + 1)) = ji10 := (i64_w _).trans hji10
         by_cases c11 : 0 ≤ (ji10)
         ·rw [if_pos c11] at H
          have c11b0 := eq_true c11
          have c11b1 : decide (0 ≤ (ji10)) = true := decide_eq_true c11
          clear c11
          by_cases c12 : (ji10) ≤ (a0.size : Int)
          ·rw [if_pos c12] at H
           have c12b0 := eq_true c12
           have c12b1 : decide ((ji10) ≤ (a0.size : Int)) = true := decide_eq_true c12
           clear c12
           simp only [Option.some.injEq, Prod.mk.injEq] at H
           obtain ⟨rfl, rfl, rfl⟩ := H
           have p6 : 0 ≤ (x10_1 : Int) := of_decide_eq_true (by first | (with_reducible assumption) | assumption)
           have q6 : x10_1 < (a0.size : Int) := of_decide_eq_true (by first | (with_reducible assumption) | assumption)
           have hx6 := bt_at a0 x10_1
           replace p6 := eq_true p6
           replace q6 := eq_true q6
           go_wp2
           repeat (go_quiet (fail); try go_wp2)
           go_ret3
           exact ⟨by rfl, by repeat (first | exact Drawn0.refl _ | apply Drawn0.step)⟩
          ·rw [if_neg c12] at H
           exact absurd H (by simp)
         ·rw [if_neg c11] at H
          exact absurd H (by simp)
        ·rw [if_neg c9] at H
         exact absurd H (by simp)
       ·rw [if_neg c7] at H
        have c7b0 : ((bt a0 x10_1) == a1) = false := beq_eq_false_iff_ne.mpr c7
        have c7b1 : ((bt a0 x10_1) != a1) = true := bne_iff_ne.mpr c7
        have H' := Aside0.mk H
        clear H
        have p6 : 0 ≤ (x10_1 : Int) := of_decide_eq_true (by first | (with_reducible assumption) | assumption)
        have q6 : x10_1 < (a0.size : Int) := of_decide_eq_true (by first | (with_reducible assumption) | assumption)
        have hx6 := bt_at a0 x10_1
        replace p6 := eq_true p6
        replace q6 := eq_true q6
        go_wp2
        repeat (go_quiet (fail); try go_wp2)
        go_roundg k1
        case measure => have := HK1.out; omega
        case rel => exact ⟨(wrap64 (x10_1 + 1)), (by first | rfl | (simp; done) | (simp [*]; done)), H', ⟨by have := HK1.out; omega⟩, by repeat (first | exact Drawn0.refl _ | apply Drawn0.step)⟩
      ·rw [if_neg c5] at H
       exact absurd H (by simp)
     ·rw [if_neg c4] at H
      exact absurd H (by simp)
    ·rw [if_neg c3] at H
     have c3b0 : decide (x10_1 < (a0.size : Int)) = false := decide_eq_false c3
     clear c3
     simp only [Option.some.injEq, Prod.mk.injEq] at H
     obtain ⟨rfl, rfl, rfl⟩ := H
     go_wp2
     repeat (go_quiet (fail); try go_wp2)
     go_ret3
     exact ⟨by first | rfl | (simp; done) | (simp [*]; done), by repeat (first | exact Drawn0.refl _ | apply Drawn0.step)⟩

end Go.Proofs.YtkihaebaccdjdaaGreatDoor.PX
