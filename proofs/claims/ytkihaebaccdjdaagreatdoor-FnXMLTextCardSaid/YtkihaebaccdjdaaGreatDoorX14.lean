import Derived.Test.YtkihaebaccdjdaaGreatDoorX13
import Derived.Test.YtkihaebaccdjdaaGreatDoorX5
set_option linter.unusedVariables false
set_option linter.unusedSimpArgs false
namespace Go.Proofs.YtkihaebaccdjdaaGreatDoor
namespace H
/-! ### What the encoder of XML writes for a text of signs that may stand in XML, and how it reads back -/
/-- Between & and ; for a sign that is named. -/
def xname (x : Int) : Option (List Int) :=
 if x = 34 then some [35, 51, 52] else if x = 39 then some [35, 51, 57] else if x = 38 then some [97, 109, 112] else if x = 60 then some [108, 116] else if x = 62 then some [103, 116]
 else if x = 9 then some [35, 120, 57] else if x = 10 then some [35, 120, 65] else if x = 13 then some [35, 120, 68] else if x = 133 then some [35, 120, 56, 53] else if x = 8232 then some [35, 120, 50, 48, 50, 56] else none
def inR (r : Int) : Prop := r = 9 ∨ r = 10 ∨ r = 13 ∨ (32 ≤ r ∧ r ≤ 55295) ∨ (57344 ≤ r ∧ r ≤ 65533) ∨ (65536 ≤ r ∧ r ≤ 1114111)
instance (r : Int) : Decidable (inR r) := inferInstanceAs (Decidable (_ ∨ _ ∨ _ ∨ _ ∨ _ ∨ _))
/-- What is written in the place of a sign of k bytes; none: the bytes themselves. -/
def xrep (r : Int) (k : Nat) : Option (List Int) :=
 match xname r with
 | some nm => some (38 :: (nm ++ [59]))
 | none => if ¬ inR r ∨ (r = 65533 ∧ k = 1) then some [239, 191, 189] else none
/-- What the encoder of XML writes for the bytes l. -/
def xesc : Nat → List Int → List Int
 | 0, _ => []
 | _ + 1, [] => []
 | k + 1, c :: l => match xrep (decL (c :: l)).1 (decL (c :: l)).2 with
   | some y => y ++ xesc k ((c :: l).drop (decL (c :: l)).2)
   | none => (c :: l).take (decL (c :: l)).2 ++ xesc k ((c :: l).drop (decL (c :: l)).2)
theorem xesc_nil (k : Nat) : xesc k [] = [] := by cases k <;> rfl
def charB (x : Int) : Bool := decide (x = 9 ∨ x = 10 ∨ x = 13 ∨ (32 ≤ x ∧ x ≤ 55295) ∨ (57344 ≤ x ∧ x ≤ 65533) ∨ 65536 ≤ x)
def xescR (x : Int) : List Int := match xname x with
 | some nm => 38 :: (nm ++ [59])
 | none => utf8E x
theorem xesc_sign (x : Int) (h : okR x) (hc : charB x = true) (rest : List Int) (k : Nat) : xesc (k + 1) (utf8E x ++ rest) = xescR x ++ xesc k rest := by
 have hd := decL_utf8E x rest h
 have hp := utf8E_pos x
 obtain ⟨h0, h1, h2⟩ := h
 simp only [charB, decide_eq_true_eq] at hc
 have hin : inR x := by unfold inR; omega
 have hn3 : ¬ (x = 65533 ∧ (utf8E x).length = 1) := by
  rintro ⟨rfl, e⟩
  exact absurd e (by decide)
 obtain ⟨c, t, hu⟩ : ∃ c t, utf8E x = c :: t := by
  cases hq : utf8E x with
  | nil => rw [hq] at hp; simp at hp
  | cons c t => exact ⟨c, t, rfl⟩
 have e1 : (utf8E x ++ rest).drop (utf8E x).length = rest := List.drop_left
 have e2 : (utf8E x ++ rest).take (utf8E x).length = utf8E x := List.take_left
 have hx : xesc (k + 1) (utf8E x ++ rest) = match xrep x (utf8E x).length with
  | some y => y ++ xesc k rest
  | none => utf8E x ++ xesc k rest := by
  rw [hu, List.cons_append] at hd e1 e2 ⊢
  rw [xesc, hd]
  simp only
  rw [e1, e2]
 rw [hx]
 unfold xrep xescR
 cases hq : xname x with
 | some nm => rfl
 | none =>
   simp only
   rw [if_neg (by rintro (e | e); exact e hin; exact hn3 e)]
theorem xesc_signs (xs : List Int) (h : ∀ x ∈ xs, okR x ∧ charB x = true) : ∀ k, (xs.flatMap utf8E).length ≤ k → xesc k (xs.flatMap utf8E) = xs.flatMap xescR := by
 induction xs with
 | nil => intro k _; exact xesc_nil _
 | cons x xs ih =>
   intro k hk
   have hp := utf8E_pos x
   rw [List.flatMap_cons] at hk ⊢
   rw [List.length_append] at hk
   obtain ⟨k', rfl⟩ : ∃ k', k = k' + 1 := ⟨k - 1, by omega⟩
   have hx := h x (by simp)
   rw [xesc_sign x hx.1 hx.2, ih (fun y hy => h y (by simp [hy])) k' (by omega), List.flatMap_cons]
theorem xname_cases {x : Int} {nm : List Int} (h : xname x = some nm) : (x = 34 ∧ nm = [35, 51, 52]) ∨ (x = 39 ∧ nm = [35, 51, 57]) ∨ (x = 38 ∧ nm = [97, 109, 112]) ∨ (x = 60 ∧ nm = [108, 116]) ∨ (x = 62 ∧ nm = [103, 116]) ∨
 (x = 9 ∧ nm = [35, 120, 57]) ∨ (x = 10 ∧ nm = [35, 120, 65]) ∨ (x = 13 ∧ nm = [35, 120, 68]) ∨ (x = 133 ∧ nm = [35, 120, 56, 53]) ∨ (x = 8232 ∧ nm = [35, 120, 50, 48, 50, 56]) := by
 unfold xname at h
 repeat' split at h
 all_goals first | (injection h with h; subst h; simp [*]; done) | (cases h)
theorem xescR_U8 (x : Int) (h : okR x) (hc : charB x = true) : U8 charB (xescR x) := by
 unfold xescR
 cases hq : xname x with
 | some nm =>
   rcases xname_cases hq with h | h | h | h | h | h | h | h | h | h
   all_goals
    obtain ⟨rfl, rfl⟩ := h
    exact U8.ascii (by decide)
 | none => exact ⟨[x], by simp [h, hc], by simp⟩
theorem xescRs_U8 (xs : List Int) (h : ∀ x ∈ xs, okR x ∧ charB x = true) : U8 charB (xs.flatMap xescR) := by
 induction xs with
 | nil => exact U8.nil _
 | cons x xs ih => rw [List.flatMap_cons]; exact (xescR_U8 x (h x (by simp)).1 (h x (by simp)).2).app (ih (fun y hy => h y (by simp [hy])))
/-- A text of XML, up to its end. -/
inductive XRead : List Int → List Int → Prop
 | nil : XRead [] []
 | plain (c : Int) (h : 32 ≤ c ∧ c < 256 ∧ c ≠ 34 ∧ c ≠ 38 ∧ c ≠ 60 ∧ c ≠ 62) {a b : List Int} (k : XRead a b) : XRead (c :: a) (c :: b)
 | ref (x : Int) (nm : List Int) (h : xname x = some nm) {a b : List Int} (k : XRead a b) : XRead (38 :: (nm ++ 59 :: a)) (utf8E x ++ b)
theorem XRead.plains {a b : List Int} (k : XRead a b) : ∀ l : List Int, (∀ c ∈ l, 32 ≤ c ∧ c < 256 ∧ c ≠ 34 ∧ c ≠ 38 ∧ c ≠ 60 ∧ c ≠ 62) → XRead (l ++ a) (l ++ b)
 | [], _ => k
 | c :: l, h => .plain c (h c (by simp)) (k.plains l (fun d hd => h d (by simp [hd])))
theorem xescR_read (x : Int) (h : okR x) (hc : charB x = true) {a b : List Int} (k : XRead a b) : XRead (xescR x ++ a) (utf8E x ++ b) := by
 obtain ⟨h0, h1, h2⟩ := h
 unfold xescR
 cases hq : xname x with
 | some nm => simpa using XRead.ref x nm hq k
 | none =>
   refine k.plains _ (fun c hcm => ?_)
   simp only [charB, decide_eq_true_eq] at hc
   have b := utf8E_rng x ⟨h0, h1, h2⟩ c hcm
   by_cases hx : x < 128
   ·have e : utf8E x = [x] := by unfold utf8E; rw [if_pos hx]
    rw [e] at hcm
    simp at hcm
    subst hcm
    unfold xname at hq
    repeat' split at hq
    all_goals first | (cases hq; done) | omega
   ·have := utf8E_high x ⟨h0, h1, h2⟩ (by omega) c hcm
    omega
theorem xescRs_read (xs : List Int) (h : ∀ x ∈ xs, okR x ∧ charB x = true) : XRead (xs.flatMap xescR) (xs.flatMap utf8E) := by
 induction xs with
 | nil => exact .nil
 | cons x xs ih => rw [List.flatMap_cons, List.flatMap_cons]; exact xescR_read x (h x (by simp)).1 (h x (by simp)).2 (ih (fun y hy => h y (by simp [hy])))
theorem xesc_good {l : List Int} (h : U8 charB l) (k : Nat) (hk : l.length ≤ k) : U8 charB (xesc k l) ∧ XRead (xesc k l) l := by
 obtain ⟨xs, h1, rfl⟩ := h
 rw [xesc_signs xs h1 k hk]
 exact ⟨xescRs_U8 xs h1, xescRs_read xs h1⟩
end H
end Go.Proofs.YtkihaebaccdjdaaGreatDoor
namespace Go.Proofs.YtkihaebaccdjdaaGreatDoor.PX
open Go.RowKit Go.Proofs.YtkihaebaccdjdaaGreatDoorW.PrintWords Go.Proofs.YtkihaebaccdjdaaGreatDoorW.PrintLast Go.Proofs.YtkihaebaccdjdaaGreatDoorW.PrintMore
attribute [local go_sem] max2_int min2_int max_two min_two max_three min_three max_four min_four   -- for this text's walks alone
set_option linter.unusedVariables false
set_option linter.unusedSimpArgs false

/-! ### smxml_isInCharacterRange: function 216 -/
def smxml_isInCharacterRange.f (a0 : Int) : Option (Bool) := if a0 = 9 then (some true) else (if a0 = 10 then (some true) else (if a0 = 13 then (some true) else (if a0 ≥ 32 then (if a0 ≤ 55295 then (some true) else (if a0 ≥ 57344 then (if a0 ≤ 65533 then (some true) else (if a0 ≥ 65536 then (some (decide (a0 ≤ 1114111))) else (some false))) else (if a0 ≥ 65536 then (some (decide (a0 ≤ 1114111))) else (some false)))) else (if a0 ≥ 57344 then (if a0 ≤ 65533 then (some true) else (if a0 ≥ 65536 then (some (decide (a0 ≤ 1114111))) else (some false))) else (if a0 ≥ 65536 then (some (decide (a0 ≤ 1114111))) else (some false))))))
set_option maxHeartbeats 8000000 in
set_option maxRecDepth 100000 in
theorem smxml_isInCharacterRange.calls (a0 : Int) (r : Bool) (w : World) (h : smxml_isInCharacterRange.f a0 = some r) :
 Calls Tryz.prog 216 #[.int .i32 a0] w fun e w' => e = .returned (.bool r) ∧ Drawn0 w w' := by
 have H : (if a0 = 9 then (some true) else (if a0 = 10 then (some true) else (if a0 = 13 then (some true) else (if a0 ≥ 32 then (if a0 ≤ 55295 then (some true) else (if a0 ≥ 57344 then (if a0 ≤ 65533 then (some true) else (if a0 ≥ 65536 then (some (decide (a0 ≤ 1114111))) else (some false))) else (if a0 ≥ 65536 then (some (decide (a0 ≤ 1114111))) else (some false)))) else (if a0 ≥ 57344 then (if a0 ≤ 65533 then (some true) else (if a0 ≥ 65536 then (some (decide (a0 ≤ 1114111))) else (some false))) else (if a0 ≥ 65536 then (some (decide (a0 ≤ 1114111))) else (some false))))))) = some r := h
 clear h
 by_cases c2 : a0 = 9
 ·rw [if_pos c2] at H
  have c2b0 : (a0 == 9) = true := beq_iff_eq.mpr c2
  have c2b1 : (a0 != 9) = false := bne_eq_false_iff_eq.mpr c2
  clear c2
  obtain rfl := Option.some.inj H
  go_enter Tryz.func216, Tryz.ntmps216
  go_wp2
  go_ret
  exact ⟨by first | rfl | (simp; done) | (simp [*]; done), by repeat (first | exact Drawn0.refl _ | apply Drawn0.step)⟩
 ·rw [if_neg c2] at H
  have c2b0 : (a0 == 9) = false := beq_eq_false_iff_ne.mpr c2
  have c2b1 : (a0 != 9) = true := bne_iff_ne.mpr c2
  by_cases c3 : a0 = 10
  ·rw [if_pos c3] at H
   have c3b0 : (a0 == 10) = true := beq_iff_eq.mpr c3
   have c3b1 : (a0 != 10) = false := bne_eq_false_iff_eq.mpr c3
   clear c3
   obtain rfl := Option.some.inj H
   go_enter Tryz.func216, Tryz.ntmps216
   go_wp2
   go_ret
   exact ⟨by first | rfl | (simp; done) | (simp [*]; done), by repeat (first | exact Drawn0.refl _ | apply Drawn0.step)⟩
  ·rw [if_neg c3] at H
   have c3b0 : (a0 == 10) = false := beq_eq_false_iff_ne.mpr c3
   have c3b1 : (a0 != 10) = true := bne_iff_ne.mpr c3
   by_cases c4 : a0 = 13
   ·rw [if_pos c4] at H
    have c4b0 : (a0 == 13) = true := beq_iff_eq.mpr c4
    have c4b1 : (a0 != 13) = false := bne_eq_false_iff_eq.mpr c4
    clear c4
    obtain rfl := Option.some.inj H
    go_enter Tryz.func216, Tryz.ntmps216
    go_wp2
    go_ret
    exact ⟨by first | rfl | (simp; done) | (simp [*]; done), by repeat (first | exact Drawn0.refl _ | apply Drawn0.step)⟩
   ·rw [if_neg c4] at H
    have c4b0 : (a0 == 13) = false := beq_eq_false_iff_ne.mpr c4
    have c4b1 : (a0 != 13) = true := bne_iff_ne.mpr c4
    by_cases c5 : a0 ≥ 32
    ·rw [if_pos c5] at H
     have c5b0 : decide (32 ≤ a0) = true := decide_eq_true c5
     clear c5
     by_cases c6 : a0 ≤ 55295
     ·rw [if_pos c6] at H
      have c6b0 : decide (a0 ≤ 55295) = true := decide_eq_true c6
      clear c6
      obtain rfl := Option.some.inj H
      go_enter Tryz.func216, Tryz.ntmps216
      go_wp2
      go_ret
      exact ⟨by first | rfl | (simp; done) | (simp [*]; done), by repeat (first | exact Drawn0.refl _ | apply Drawn0.step)⟩
     ·rw [if_neg c6] at H
      have c6b0 : decide (a0 ≤ 55295) = false := decide_eq_false c6
      clear c6
      by_cases c7 : a0 ≥ 57344
      ·rw [if_pos c7] at H
       have c7b0 : decide (57344 ≤ a0) = true := decide_eq_true c7
       clear c7
       by_cases c8 : a0 ≤ 65533
       ·rw [if_pos c8] at H
        have c8b0 : decide (a0 ≤ 65533) = true := decide_eq_true c8
        clear c8
        obtain rfl := Option.some.inj H
        go_enter Tryz.func216, Tryz.ntmps216
        go_wp2
        go_ret
        exact ⟨by first | rfl | (simp; done) | (simp [*]; done), by repeat (first | exact Drawn0.refl _ | apply Drawn0.step)⟩
       ·rw [if_neg c8] at H
        have c8b0 : decide (a0 ≤ 65533) = false := decide_eq_false c8
        clear c8
        by_cases c9 : a0 ≥ 65536
        ·rw [if_pos c9] at H
         have c9b0 : decide (65536 ≤ a0) = true := decide_eq_true c9
         clear c9
         obtain rfl := Option.some.inj H
         go_enter Tryz.func216, Tryz.ntmps216
         go_wp2
         go_ret
         exact ⟨by first | rfl | (simp; done) | (simp [*]; done), by repeat (first | exact Drawn0.refl _ | apply Drawn0.step)⟩
        ·rw [if_neg c9] at H
         have c9b0 : decide (65536 ≤ a0) = false := decide_eq_false c9
         clear c9
         obtain rfl := Option.some.inj H
         go_enter Tryz.func216, Tryz.ntmps216
         go_wp2
         go_ret
         exact ⟨by first | rfl | (simp; done) | (simp [*]; done), by repeat (first | exact Drawn0.refl _ | apply Drawn0.step)⟩
      ·rw [if_neg c7] at H
       have c7b0 : decide (57344 ≤ a0) = false := decide_eq_false c7
       clear c7
       by_cases c10 : a0 ≥ 65536
       ·rw [if_pos c10] at H
        have c10b0 : decide (65536 ≤ a0) = true := decide_eq_true c10
        clear c10
        obtain rfl := Option.some.inj H
        go_enter Tryz.func216, Tryz.ntmps216
        go_wp2
        go_ret
        exact ⟨by first | rfl | (simp; done) | (simp [*]; done), by repeat (first | exact Drawn0.refl _ | apply Drawn0.step)⟩
       ·rw [if_neg c10] at H
        have c10b0 : decide (65536 ≤ a0) = false := decide_eq_false c10
        clear c10
        obtain rfl := Option.some.inj H
        go_enter Tryz.func216, Tryz.ntmps216
        go_wp2
        go_ret
        exact ⟨by first | rfl | (simp; done) | (simp [*]; done), by repeat (first | exact Drawn0.refl _ | apply Drawn0.step)⟩
    ·rw [if_neg c5] at H
     have c5b0 : decide (32 ≤ a0) = false := decide_eq_false c5
     clear c5
     by_cases c11 : a0 ≥ 57344
     ·rw [if_pos c11] at H
      have c11b0 : decide (57344 ≤ a0) = true := decide_eq_true c11
      clear c11
      by_cases c12 : a0 ≤ 65533
      ·rw [if_pos c12] at H
       have c12b0 : decide (a0 ≤ 65533) = true := decide_eq_true c12
       clear c12
       obtain rfl := Option.some.inj H
       go_enter Tryz.func216, Tryz.ntmps216
       go_wp2
       go_ret
       exact ⟨by first | rfl | (simp; done) | (simp [*]; done), by repeat (first | exact Drawn0.refl _ | apply Drawn0.step)⟩
      ·rw [if_neg c12] at H
       have c12b0 : decide (a0 ≤ 65533) = false := decide_eq_false c12
       clear c12
       by_cases c13 : a0 ≥ 65536
       ·rw [if_pos c13] at H
        have c13b0 : decide (65536 ≤ a0) = true := decide_eq_true c13
        clear c13
        obtain rfl := Option.some.inj H
        go_enter Tryz.func216, Tryz.ntmps216
        go_wp2
        go_ret
        exact ⟨by first | rfl | (simp; done) | (simp [*]; done), by repeat (first | exact Drawn0.refl _ | apply Drawn0.step)⟩
       ·rw [if_neg c13] at H
        have c13b0 : decide (65536 ≤ a0) = false := decide_eq_false c13
        clear c13
        obtain rfl := Option.some.inj H
        go_enter Tryz.func216, Tryz.ntmps216
        go_wp2
        go_ret
        exact ⟨by first | rfl | (simp; done) | (simp [*]; done), by repeat (first | exact Drawn0.refl _ | apply Drawn0.step)⟩
     ·rw [if_neg c11] at H
      have c11b0 : decide (57344 ≤ a0) = false := decide_eq_false c11
      clear c11
      by_cases c14 : a0 ≥ 65536
      ·rw [if_pos c14] at H
       have c14b0 : decide (65536 ≤ a0) = true := decide_eq_true c14
       clear c14
       obtain rfl := Option.some.inj H
       go_enter Tryz.func216, Tryz.ntmps216
       go_wp2
       go_ret
       exact ⟨by first | rfl | (simp; done) | (simp [*]; done), by repeat (first | exact Drawn0.refl _ | apply Drawn0.step)⟩
      ·rw [if_neg c14] at H
       have c14b0 : decide (65536 ≤ a0) = false := decide_eq_false c14
       clear c14
       obtain rfl := Option.some.inj H
       go_enter Tryz.func216, Tryz.ntmps216
       go_wp2
       go_ret
       exact ⟨by first | rfl | (simp; done) | (simp [*]; done), by repeat (first | exact Drawn0.refl _ | apply Drawn0.step)⟩

end Go.Proofs.YtkihaebaccdjdaaGreatDoor.PX
