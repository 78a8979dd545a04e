import Derived.Test.YtkihaebaccdjdaaGreatDoorJ8
import Derived.Test.YtkihaebaccdjdaaGreatDoorJ4
set_option linter.unusedVariables false
set_option linter.unusedSimpArgs false
namespace Go.Proofs.YtkihaebaccdjdaaGreatDoor
namespace H
/-! ### UTF-8 on lists of numbers: the signs of a text -/
def utf8E (x : Int) : List Int :=
 if x < 128 then [x] else if x < 2048 then [192 + x / 64, 128 + x % 64]
 else if x < 65536 then [224 + x / 4096, 128 + x / 64 % 64, 128 + x % 64]
 else [240 + x / 262144, 128 + x / 4096 % 64, 128 + x / 64 % 64, 128 + x % 64]
def okR (x : Int) : Prop := 0 ≤ x ∧ x < 1114112 ∧ ¬ (55296 ≤ x ∧ x < 57344)
theorem decL_utf8E (x : Int) (rest : List Int) (h : okR x) : decL (utf8E x ++ rest) = (x, (utf8E x).length) := by
 obtain ⟨h0, h1, h2⟩ := h
 unfold utf8E decL Go.Lib.decodeN
 split
 ·simp
  rw [if_pos (by omega)]
  simp; omega
 ·split
  ·simp
   rw [if_neg (by omega), if_pos (by omega), if_pos (by omega)]
   simp; omega
  ·split
   ·simp
    rw [if_neg (by omega), if_neg (by omega), if_pos (by omega), if_pos (by omega)]
    simp; omega
   ·simp
    rw [if_neg (by omega), if_neg (by omega), if_neg (by omega), if_pos (by omega), if_pos (by omega)]
    simp; omega
/-- The bytes behind the first one. -/
def cont : Int → List Int → Option Int
 | x, [] => some x
 | x, d :: ds => if 128 ≤ d ∧ d < 192 then cont (x * 64 + (d - 128)) ds else none
def r0n (size : Nat) (least x : Int) (t : List Int) : Int × Nat × Bool :=
 if t.length + 1 < size then (0, 0, false) else
 match cont x (t.take (size - 1)) with
 | none => (0, 0, false)
 | some y => if y < least ∨ 1114111 < y ∨ (55296 ≤ y ∧ y < 57344) then (0, 0, false) else (y, size, true)
/-- spec.rune0 -/
def r0 : List Int → Int × Nat × Bool
 | [] => (0, 0, false)
 | c :: t => if c < 128 then (c, 1, true) else if 194 ≤ c ∧ c < 224 then r0n 2 128 (c - 192) t else if 224 ≤ c ∧ c < 240 then r0n 3 2048 (c - 224) t else if 240 ≤ c ∧ c < 245 then r0n 4 65536 (c - 240) t else (0, 0, false)
theorem r0_utf8E (x : Int) (rest : List Int) (h : okR x) : r0 (utf8E x ++ rest) = (x, (utf8E x).length, true) := by
 obtain ⟨h0, h1, h2⟩ := h
 unfold utf8E
 split
 ·simp [r0, *]
 ·split
  ·simp only [List.cons_append, List.nil_append, r0]
   rw [if_neg (by omega), if_pos (by omega)]
   simp only [r0n, List.length_cons, List.take_succ_cons, List.take_zero, cont, Nat.add_one_sub_one]
   rw [if_neg (by omega), if_pos (by omega)]
   dsimp only
   rw [if_neg (by omega)]
   simp; omega
  ·split
   ·simp only [List.cons_append, List.nil_append, r0]
    rw [if_neg (by omega), if_neg (by omega), if_pos (by omega)]
    simp only [r0n, List.length_cons, List.take_succ_cons, List.take_zero, cont, Nat.add_one_sub_one]
    rw [if_neg (by omega), if_pos (by omega), if_pos (by omega)]
    dsimp only
    rw [if_neg (by omega)]
    simp; omega
   ·simp only [List.cons_append, List.nil_append, r0]
    rw [if_neg (by omega), if_neg (by omega), if_neg (by omega), if_pos (by omega)]
    simp only [r0n, List.length_cons, List.take_succ_cons, List.take_zero, cont, Nat.add_one_sub_one]
    rw [if_neg (by omega), if_pos (by omega), if_pos (by omega), if_pos (by omega)]
    dsimp only
    rw [if_neg (by omega)]
    simp; omega
theorem r0_inv (l : List Int) (hr : ∀ x ∈ l, 0 ≤ x ∧ x < 256) {x : Int} {k : Nat} (h : r0 l = (x, k, true)) : okR x ∧ k = (utf8E x).length ∧ l = utf8E x ++ l.drop k := by
 have len2 : ∀ {y : Int} {t : List Int} {n : Nat}, cont y (t.take n) = none ∨ t.length < n ∨ ∃ a b, t = a ++ b ∧ a.length = n := fun {y t n} => by
  by_cases hn : t.length < n
  ·exact .inr (.inl hn)
  ·exact .inr (.inr ⟨t.take n, t.drop n, (List.take_append_drop n t).symm, by simp; omega⟩)
 cases l with
 | nil => simp [r0] at h
 | cons c t =>
   have hc := hr c (by simp)
   simp only [r0] at h
   split at h
   ·obtain ⟨rfl, rfl, _⟩ := by simpa using h
    refine ⟨⟨hc.1, by omega, by omega⟩, ?_, ?_⟩
    all_goals simp [utf8E, *]
   ·split at h
    ·unfold r0n at h
     split at h
     ·simp at h
     ·match t, h with
      | [], _ => simp at *
      | d :: t, h =>
        simp only [List.take_succ_cons, List.take_zero, cont, Nat.add_one_sub_one] at h
        split at h
        ·simp at h
        ·rename_i y hy
         split at hy
         ·injection hy with hy
          split at h
          ·simp at h
          ·obtain ⟨rfl, rfl, _⟩ := by simpa using h
           have hu : utf8E y = [c, d] := by
            unfold utf8E
            rw [if_neg (by omega), if_pos (by omega)]
            simp; omega
           exact ⟨⟨by omega, by omega, by omega⟩, by simp [hu], by simp [hu]⟩
         ·simp at hy
    ·split at h
     ·unfold r0n at h
      split at h
      ·simp at h
      ·match t, h with
       | [], _ => simp at *
       | [d], _ => simp at *
       | d :: e :: t, h =>
         simp only [List.take_succ_cons, List.take_zero, cont, Nat.add_one_sub_one] at h
         split at h
         ·simp at h
         ·rename_i y hy
          split at hy
          ·split at hy
           ·injection hy with hy
            split at h
            ·simp at h
            ·obtain ⟨rfl, rfl, _⟩ := by simpa using h
             have hu : utf8E y = [c, d, e] := by
              unfold utf8E
              rw [if_neg (by omega), if_neg (by omega), if_pos (by omega)]
              simp; omega
             exact ⟨⟨by omega, by omega, by omega⟩, by simp [hu], by simp [hu]⟩
           ·simp at hy
          ·simp at hy
     ·split at h
      ·unfold r0n at h
       split at h
       ·simp at h
       ·match t, h with
        | [], _ => simp at *
        | [d], _ => simp at *
        | [d, e], _ => simp at *
        | d :: e :: f :: t, h =>
          simp only [List.take_succ_cons, List.take_zero, cont, Nat.add_one_sub_one] at h
          split at h
          ·simp at h
          ·rename_i y hy
           split at hy
           ·split at hy
            ·split at hy
             ·injection hy with hy
              split at h
              ·simp at h
              ·obtain ⟨rfl, rfl, _⟩ := by simpa using h
               have hu : utf8E y = [c, d, e, f] := by
                unfold utf8E
                rw [if_neg (by omega), if_neg (by omega), if_neg (by omega)]
                simp; omega
               exact ⟨⟨by omega, by omega, by omega⟩, by simp [hu], by simp [hu]⟩
             ·simp at hy
            ·simp at hy
           ·simp at hy
      ·simp at h
theorem utf8E_pos (x : Int) : 0 < (utf8E x).length := by
 unfold utf8E
 repeat' split
 all_goals simp
theorem utf8E_rng (x : Int) (h : okR x) : ∀ y ∈ utf8E x, 0 ≤ y ∧ y < 256 := by
 obtain ⟨h0, h1, h2⟩ := h
 intro y hy
 unfold utf8E at hy
 split at hy
 ·simp at hy; omega
 ·split at hy
  ·simp at hy; omega
  ·split at hy
   ·simp at hy; omega
   ·simp at hy; omega
theorem utf8E_high (x : Int) (h : okR x) (h128 : 128 ≤ x) : ∀ y ∈ utf8E x, 128 ≤ y := by
 obtain ⟨h0, h1, h2⟩ := h
 intro y hy
 unfold utf8E at hy
 split at hy
 ·simp at hy; omega
 ·split at hy
  ·simp at hy; omega
  ·split at hy
   ·simp at hy; omega
   ·simp at hy; omega
/-- spec.areRunes (fuel: more than the bytes). -/
def runes (p : Int → Bool) : Nat → List Int → Bool
 | 0, _ => false
 | k + 1, l => if l = [] then true else if (r0 l).2.2 && p (r0 l).1 then runes p k (l.drop (r0 l).2.1) else false
/-- A text by its signs. -/
def U8 (p : Int → Bool) (l : List Int) : Prop := ∃ xs : List Int, (∀ x ∈ xs, okR x ∧ p x = true) ∧ l = xs.flatMap utf8E
theorem U8.nil (p : Int → Bool) : U8 p [] := ⟨[], by simp, rfl⟩
theorem U8.app {p : Int → Bool} {a b : List Int} (h : U8 p a) (k : U8 p b) : U8 p (a ++ b) := by
 obtain ⟨xs, h1, rfl⟩ := h
 obtain ⟨ys, h2, rfl⟩ := k
 exact ⟨xs ++ ys, fun x hx => (List.mem_append.1 hx).elim (h1 x) (h2 x), by simp⟩
theorem U8.ascii {p : Int → Bool} {a : List Int} (h : ∀ x ∈ a, 0 ≤ x ∧ x < 128 ∧ p x = true) : U8 p a := by
 refine ⟨a, fun x hx => ⟨⟨(h x hx).1, by have := h x hx; omega, by have := h x hx; omega⟩, (h x hx).2.2⟩, ?_⟩
 induction a with
 | nil => rfl
 | cons c t ih =>
   rw [List.flatMap_cons, ← ih (fun x hx => h x (by simp [hx]))]
   have := h c (by simp)
   simp [utf8E, this.2.1]
theorem runes_of (p : Int → Bool) (xs : List Int) (h : ∀ x ∈ xs, okR x ∧ p x = true) : ∀ k, (xs.flatMap utf8E).length < k → runes p k (xs.flatMap utf8E) = true := by
 induction xs with
 | nil => intro k hk; cases k with
   | zero => simp at hk
   | succ k => simp [runes]
 | cons x xs ih =>
   intro k hk
   cases k with
   | zero => simp at hk
   | succ k =>
     have hx := h x (by simp)
     have hp := utf8E_pos x
     have hne : (x :: xs).flatMap utf8E ≠ [] := fun e => by
      rw [List.flatMap_cons] at e
      have := congrArg List.length e
      rw [List.length_append, List.length_nil] at this
      omega
     unfold runes
     rw [if_neg hne, List.flatMap_cons, r0_utf8E x _ hx.1]
     simp only [hx.2, Bool.and_self, if_true, List.drop_left]
     refine ih (fun y hy => h y (by simp [hy])) k ?_
     rw [List.flatMap_cons, List.length_append] at hk
     omega
theorem U8.runes {p : Int → Bool} {l : List Int} (h : U8 p l) (k : Nat) (hk : l.length < k) : runes p k l = true := by
 obtain ⟨xs, h1, rfl⟩ := h
 exact runes_of p xs h1 k hk
theorem U8.of_runes {p : Int → Bool} : ∀ (k : Nat) (l : List Int), (∀ x ∈ l, 0 ≤ x ∧ x < 256) → H.runes p k l = true → U8 p l
 | 0, l, _, h => by simp [H.runes] at h
 | k + 1, l, hr, h => by
   unfold H.runes at h
   split at h
   ·rename_i hl; rw [hl]; exact U8.nil p
   ·split at h
    ·rename_i hq
     rw [Bool.and_eq_true] at hq
     obtain ⟨x, m, b, hx⟩ : ∃ x m b, r0 l = (x, m, b) := ⟨_, _, _, rfl⟩
     rw [hx] at hq h
     simp only at hq h
     obtain ⟨rfl, hp⟩ := hq
     obtain ⟨ho, hm, hl⟩ := r0_inv l hr hx
     obtain ⟨ys, h1, h2⟩ := U8.of_runes k (l.drop m) (fun y hy => hr y (List.mem_of_mem_drop hy)) h
     refine ⟨x :: ys, fun y hy => ?_, ?_⟩
     ·rcases List.mem_cons.1 hy with rfl | hy
      ·exact ⟨ho, hp⟩
      ·exact h1 y hy
     ·rw [List.flatMap_cons, ← h2]; exact hl
    ·simp at h
end H
end Go.Proofs.YtkihaebaccdjdaaGreatDoor
set_option linter.unusedVariables false
set_option linter.unusedSimpArgs false
namespace Go.Proofs.YtkihaebaccdjdaaGreatDoor
namespace H
/-! ### What the encoder of XML writes for a text of signs that may stand in XML, and how it reads back -/
/-- Between & and ; for a sign that is named. -/
def xname (x : Int) : Option (List Int) :=
  if x = 34 then some [35, 51, 52] else if x = 39 then some [35, 51, 57] else if x = 38 then some [97, 109, 112] else if x = 60 then some [108, 116] else if x = 62 then some [103, 116]
  else if x = 9 then some [35, 120, 57] else if x = 10 then some [35, 120, 65] else if x = 13 then some [35, 120, 68] else if x = 133 then some [35, 120, 56, 53] else if x = 8232 then some [35, 120, 50, 48, 50, 56] else none
def inR (r : Int) : Prop := r = 9 ∨ r = 10 ∨ r = 13 ∨ (32 ≤ r ∧ r ≤ 55295) ∨ (57344 ≤ r ∧ r ≤ 65533) ∨ (65536 ≤ r ∧ r ≤ 1114111)
instance (r : Int) : Decidable (inR r) := inferInstanceAs (Decidable (_ ∨ _ ∨ _ ∨ _ ∨ _ ∨ _))
/-- What is written in the place of a sign of k bytes; none: the bytes themselves. -/
def xrep (r : Int) (k : Nat) : Option (List Int) :=
  match xname r with
  | some nm => some (38 :: (nm ++ [59]))
  | none => if ¬ inR r ∨ (r = 65533 ∧ k = 1) then some [239, 191, 189] else none
/-- What the encoder of XML writes for the bytes l. -/
def xesc : Nat → List Int → List Int
  | 0, _ => []
  | _ + 1, [] => []
  | k + 1, c :: l => match xrep (decL (c :: l)).1 (decL (c :: l)).2 with
    | some y => y ++ xesc k ((c :: l).drop (decL (c :: l)).2)
    | none => (c :: l).take (decL (c :: l)).2 ++ xesc k ((c :: l).drop (decL (c :: l)).2)
theorem xesc_nil (k : Nat) : xesc k [] = [] := by cases k <;> rfl
def charB (x : Int) : Bool := decide (x = 9 ∨ x = 10 ∨ x = 13 ∨ (32 ≤ x ∧ x ≤ 55295) ∨ (57344 ≤ x ∧ x ≤ 65533) ∨ 65536 ≤ x)
theorem xname_cases {x : Int} {nm : List Int} (h : xname x = some nm) : (x = 34 ∧ nm = [35, 51, 52]) ∨ (x = 39 ∧ nm = [35, 51, 57]) ∨ (x = 38 ∧ nm = [97, 109, 112]) ∨ (x = 60 ∧ nm = [108, 116]) ∨ (x = 62 ∧ nm = [103, 116]) ∨
    (x = 9 ∧ nm = [35, 120, 57]) ∨ (x = 10 ∧ nm = [35, 120, 65]) ∨ (x = 13 ∧ nm = [35, 120, 68]) ∨ (x = 133 ∧ nm = [35, 120, 56, 53]) ∨ (x = 8232 ∧ nm = [35, 120, 50, 48, 50, 56]) := by
  unfold xname at h
  repeat' split at h
  all_goals first | (injection h with h; subst h; simp [*]; done) | (cases h)
/-- A text of XML, up to its end. -/
inductive XRead : List Int → List Int → Prop
  | nil : XRead [] []
  | plain (c : Int) (h : 32 ≤ c ∧ c < 256 ∧ c ≠ 34 ∧ c ≠ 38 ∧ c ≠ 60 ∧ c ≠ 62) {a b : List Int} (k : XRead a b) : XRead (c :: a) (c :: b)
  | ref (x : Int) (nm : List Int) (h : xname x = some nm) {a b : List Int} (k : XRead a b) : XRead (38 :: (nm ++ 59 :: a)) (utf8E x ++ b)
end H
end Go.Proofs.YtkihaebaccdjdaaGreatDoor
namespace Go.Proofs.YtkihaebaccdjdaaGreatDoor.PX
open Go.RowKit Go.Proofs.YtkihaebaccdjdaaGreatDoorW.PrintWords Go.Proofs.YtkihaebaccdjdaaGreatDoorW.PrintLast Go.Proofs.YtkihaebaccdjdaaGreatDoorW.PrintMore
attribute [local go_sem] max2_int min2_int max_two min_two max_three min_three max_four min_four   -- for this text's walks alone
set_option linter.unusedVariables false
set_option linter.unusedSimpArgs false

/-! ### smxml_isInCharacterRange: function 216 -/
def smxml_isInCharacterRange.f (a0 : Int) : Option (Bool) := if a0 = 9 then (some true) else (if a0 = 10 then (some true) else (if a0 = 13 then (some true) else (if a0 ≥ 32 then (if a0 ≤ 55295 then (some true) else (if a0 ≥ 57344 then (if a0 ≤ 65533 then (some true) else (if a0 ≥ 65536 then (some (decide (a0 ≤ 1114111))) else (some false))) else (if a0 ≥ 65536 then (some (decide (a0 ≤ 1114111))) else (some false)))) else (if a0 ≥ 57344 then (if a0 ≤ 65533 then (some true) else (if a0 ≥ 65536 then (some (decide (a0 ≤ 1114111))) else (some false))) else (if a0 ≥ 65536 then (some (decide (a0 ≤ 1114111))) else (some false))))))
set_option maxHeartbeats 8000000 in
set_option maxRecDepth 100000 in
theorem smxml_isInCharacterRange.calls (a0 : Int) (r : Bool) (w : World) (h : smxml_isInCharacterRange.f a0 = some r) :
 Calls Tryz.prog 216 #[.int .i32 a0] w fun e w' => e = .returned (.bool r) ∧ Drawn0 w w' := by
 have H : (if a0 = 9 then (some true) else (if a0 = 10 then (some true) else (if a0 = 13 then (some true) else (if a0 ≥ 32 then (if a0 ≤ 55295 then (some true) else (if a0 ≥ 57344 then (if a0 ≤ 65533 then (some true) else (if a0 ≥ 65536 then (some (decide (a0 ≤ 1114111))) else (some false))) else (if a0 ≥ 65536 then (some (decide (a0 ≤ 1114111))) else (some false)))) else (if a0 ≥ 57344 then (if a0 ≤ 65533 then (some true) else (if a0 ≥ 65536 then (some (decide (a0 ≤ 1114111))) else (some false))) else (if a0 ≥ 65536 then (some (decide (a0 ≤ 1114111))) else (some false))))))) = some r := h
 clear h
 by_cases c2 : a0 = 9
 ·rw [if_pos c2] at H
  have c2b0 : (a0 == 9) = true := beq_iff_eq.mpr c2
  have c2b1 : (a0 != 9) = false := bne_eq_false_iff_eq.mpr c2
  clear c2
  obtain rfl := Option.some.inj H
  go_enter Tryz.func216, Tryz.ntmps216
  go_wp2
  go_ret
  exact ⟨by first | rfl | (simp; done) | (simp [*]; done), by repeat (first | exact Drawn0.refl _ | apply Drawn0.step)⟩
 ·rw [if_neg c2] at H
  have c2b0 : (a0 == 9) = false := beq_eq_false_iff_ne.mpr c2
  have c2b1 : (a0 != 9) = true := bne_iff_ne.mpr c2
  by_cases c3 : a0 = 10
  ·rw [if_pos c3] at H
   have c3b0 : (a0 == 10) = true := beq_iff_eq.mpr c3
   have c3b1 : (a0 != 10) = false := bne_eq_false_iff_eq.mpr c3
   clear c3
   obtain rfl := Option.some.inj H
   go_enter Tryz.func216, Tryz.ntmps216
   go_wp2
   go_ret
   exact ⟨by first | rfl | (simp; done) | (simp [*]; done), by repeat (first | exact Drawn0.refl _ | apply Drawn0.step)⟩
  ·rw [if_neg c3] at H
   have c3b0 : (a0 == 10) = false := beq_eq_false_iff_ne.mpr c3
   have c3b1 : (a0 != 10) = true := bne_iff_ne.mpr c3
   by_cases c4 : a0 = 13
   ·rw [if_pos c4] at H
    have c4b0 : (a0 == 13) = true := beq_iff_eq.mpr c4
    have c4b1 : (a0 != 13) = false := bne_eq_false_iff_eq.mpr c4
    clear c4
    obtain rfl := Option.some.inj H
    go_enter Tryz.func216, Tryz.ntmps216
    go_wp2
    go_ret
    exact ⟨by first | rfl | (simp; done) | (simp [*]; done), by repeat (first | exact Drawn0.refl _ | apply Drawn0.step)⟩
   ·rw [if_neg c4] at H
    have c4b0 : (a0 == 13) = false := beq_eq_false_iff_ne.mpr c4
    have c4b1 : (a0 != 13) = true := bne_iff_ne.mpr c4
    by_cases c5 : a0 ≥ 32
    ·rw [if_pos c5] at H
     have c5b0 : decide (32 ≤ a0) = true := decide_eq_true c5
     clear c5
     by_cases c6 : a0 ≤ 55295
     ·rw [if_pos c6] at H
      have c6b0 : decide (a0 ≤ 55295) = true := decide_eq_true c6
      clear c6
      obtain rfl := Option.some.inj H
      go_enter Tryz.func216, Tryz.ntmps216
      go_wp2
      go_ret
      exact ⟨by first | rfl | (simp; done) | (simp [*]; done), by repeat (first | exact Drawn0.refl _ | apply Drawn0.step)⟩
     ·rw [if_neg c6] at H
      have c6b0 : decide (a0 ≤ 55295) = false := decide_eq_false c6
      clear c6
      by_cases c7 : a0 ≥ 57344
      ·rw [if_pos c7] at H
       have c7b0 : decide (57344 ≤ a0) = true := decide_eq_true c7
       clear c7
       by_cases c8 : a0 ≤ 65533
       ·rw [if_pos c8] at H
        have c8b0 : decide (a0 ≤ 65533) = true := decide_eq_true c8
        clear c8
        obtain rfl := Option.some.inj H
        go_enter Tryz.func216, Tryz.ntmps216
        go_wp2
        go_ret
        exact ⟨by first | rfl | (simp; done) | (simp [*]; done), by repeat (first | exact Drawn0.refl _ | apply Drawn0.step)⟩
       ·rw [if_neg c8] at H
        have c8b0 : decide (a0 ≤ 65533) = false := decide_eq_false c8
        clear c8
        by_cases c9 : a0 ≥ 65536
        ·rw [if_pos c9] at H
         have c9b0 : decide (65536 ≤ a0) = true := decide_eq_true c9
         clear c9
         obtain rfl := Option.some.inj H
         go_enter Tryz.func216, Tryz.ntmps216
         go_wp2
         go_ret
         exact ⟨by first | rfl | (simp; done) | (simp [*]; done), by repeat (first | exact Drawn0.refl _ | apply Drawn0.step)⟩
        ·rw [if_neg c9] at H
         have c9b0 : decide (65536 ≤ a0) = false := decide_eq_false c9
         clear c9
         obtain rfl := Option.some.inj H
         go_enter Tryz.func216, Tryz.ntmps216
         go_wp2
         go_ret
         exact ⟨by first | rfl | (simp; done) | (simp [*]; done), by repeat (first | exact Drawn0.refl _ | apply Drawn0.step)⟩
      ·rw [if_neg c7] at H
       have c7b0 : decide (57344 ≤ a0) = false := decide_eq_false c7
       clear c7
       by_cases c10 : a0 ≥ 65536
       ·rw [if_pos c10] at H
        have c10b0 : decide (65536 ≤ a0) = true := decide_eq_true c10
        clear c10
        obtain rfl := Option.some.inj H
        go_enter Tryz.func216, Tryz.ntmps216
        go_wp2
        go_ret
        exact ⟨by first | rfl | (simp; done) | (simp [*]; done), by repeat (first | exact Drawn0.refl _ | apply Drawn0.step)⟩
       ·rw [if_neg c10] at H
        have c10b0 : decide (65536 ≤ a0) = false := decide_eq_false c10
        clear c10
        obtain rfl := Option.some.inj H
        go_enter Tryz.func216, Tryz.ntmps216
        go_wp2
        go_ret
        exact ⟨by first | rfl | (simp; done) | (simp [*]; done), by repeat (first | exact Drawn0.refl _ | apply Drawn0.step)⟩
    ·rw [if_neg c5] at H
     have c5b0 : decide (32 ≤ a0) = false := decide_eq_false c5
     clear c5
     by_cases c11 : a0 ≥ 57344
     ·rw [if_pos c11] at H
      have c11b0 : decide (57344 ≤ a0) = true := decide_eq_true c11
      clear c11
      by_cases c12 : a0 ≤ 65533
      ·rw [if_pos c12] at H
       have c12b0 : decide (a0 ≤ 65533) = true := decide_eq_true c12
       clear c12
       obtain rfl := Option.some.inj H
       go_enter Tryz.func216, Tryz.ntmps216
       go_wp2
       go_ret
       exact ⟨by first | rfl | (simp; done) | (simp [*]; done), by repeat (first | exact Drawn0.refl _ | apply Drawn0.step)⟩
      ·rw [if_neg c12] at H
       have c12b0 : decide (a0 ≤ 65533) = false := decide_eq_false c12
       clear c12
       by_cases c13 : a0 ≥ 65536
       ·rw [if_pos c13] at H
        have c13b0 : decide (65536 ≤ a0) = true := decide_eq_true c13
        clear c13
        obtain rfl := Option.some.inj H
        go_enter Tryz.func216, Tryz.ntmps216
        go_wp2
        go_ret
        exact ⟨by first | rfl | (simp; done) | (simp [*]; done), by repeat (first | exact Drawn0.refl _ | apply Drawn0.step)⟩
       ·rw [if_neg c13] at H
        have c13b0 : decide (65536 ≤ a0) = false := decide_eq_false c13
        clear c13
        obtain rfl := Option.some.inj H
        go_enter Tryz.func216, Tryz.ntmps216
        go_wp2
        go_ret
        exact ⟨by first | rfl | (simp; done) | (simp [*]; done), by repeat (first | exact Drawn0.refl _ | apply Drawn0.step)⟩
     ·rw [if_neg c11] at H
      have c11b0 : decide (57344 ≤ a0) = false := decide_eq_false c11
      clear c11
      by_cases c14 : a0 ≥ 65536
      ·rw [if_pos c14] at H
       have c14b0 : decide (65536 ≤ a0) = true := decide_eq_true c14
       clear c14
       obtain rfl := Option.some.inj H
       go_enter Tryz.func216, Tryz.ntmps216
       go_wp2
       go_ret
       exact ⟨by first | rfl | (simp; done) | (simp [*]; done), by repeat (first | exact Drawn0.refl _ | apply Drawn0.step)⟩
      ·rw [if_neg c14] at H
       have c14b0 : decide (65536 ≤ a0) = false := decide_eq_false c14
       clear c14
       obtain rfl := Option.some.inj H
       go_enter Tryz.func216, Tryz.ntmps216
       go_wp2
       go_ret
       exact ⟨by first | rfl | (simp; done) | (simp [*]; done), by repeat (first | exact Drawn0.refl _ | apply Drawn0.step)⟩

end Go.Proofs.YtkihaebaccdjdaaGreatDoor.PX
