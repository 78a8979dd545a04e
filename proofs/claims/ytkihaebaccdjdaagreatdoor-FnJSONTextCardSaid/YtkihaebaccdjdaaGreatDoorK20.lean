import Derived.Test.YtkihaebaccdjdaaGreatDoorK19
set_option linter.unusedVariables false
set_option linter.unusedSimpArgs false
namespace Go.Proofs.YtkihaebaccdjdaaGreatDoor
namespace H
/-! ### What the encoder of XML writes for a text of signs that may stand in XML, and how it reads back -/
/-- Between & and ; for a sign that is named. -/
def xname (x : Int) : Option (List Int) :=
  if x = 34 then some [35, 51, 52] else if x = 39 then some [35, 51, 57] else if x = 38 then some [97, 109, 112] else if x = 60 then some [108, 116] else if x = 62 then some [103, 116]
  else if x = 9 then some [35, 120, 57] else if x = 10 then some [35, 120, 65] else if x = 13 then some [35, 120, 68] else if x = 133 then some [35, 120, 56, 53] else if x = 8232 then some [35, 120, 50, 48, 50, 56] else none
def inR (r : Int) : Prop := r = 9 ∨ r = 10 ∨ r = 13 ∨ (32 ≤ r ∧ r ≤ 55295) ∨ (57344 ≤ r ∧ r ≤ 65533) ∨ (65536 ≤ r ∧ r ≤ 1114111)
instance (r : Int) : Decidable (inR r) := inferInstanceAs (Decidable (_ ∨ _ ∨ _ ∨ _ ∨ _ ∨ _))
/-- What is written in the place of a sign of k bytes; none: the bytes themselves. -/
def xrep (r : Int) (k : Nat) : Option (List Int) :=
  match xname r with
  | some nm => some (38 :: (nm ++ [59]))
  | none => if ¬ inR r ∨ (r = 65533 ∧ k = 1) then some [239, 191, 189] else none
/-- What the encoder of XML writes for the bytes l. -/
def xesc : Nat → List Int → List Int
  | 0, _ => []
  | _ + 1, [] => []
  | k + 1, c :: l => match xrep (decL (c :: l)).1 (decL (c :: l)).2 with
    | some y => y ++ xesc k ((c :: l).drop (decL (c :: l)).2)
    | none => (c :: l).take (decL (c :: l)).2 ++ xesc k ((c :: l).drop (decL (c :: l)).2)
theorem xesc_nil (k : Nat) : xesc k [] = [] := by cases k <;> rfl
theorem xname_cases {x : Int} {nm : List Int} (h : xname x = some nm) : (x = 34 ∧ nm = [35, 51, 52]) ∨ (x = 39 ∧ nm = [35, 51, 57]) ∨ (x = 38 ∧ nm = [97, 109, 112]) ∨ (x = 60 ∧ nm = [108, 116]) ∨ (x = 62 ∧ nm = [103, 116]) ∨
    (x = 9 ∧ nm = [35, 120, 57]) ∨ (x = 10 ∧ nm = [35, 120, 65]) ∨ (x = 13 ∧ nm = [35, 120, 68]) ∨ (x = 133 ∧ nm = [35, 120, 56, 53]) ∨ (x = 8232 ∧ nm = [35, 120, 50, 48, 50, 56]) := by
  unfold xname at h
  repeat' split at h
  all_goals first | (injection h with h; subst h; simp [*]; done) | (cases h)
/-- A text of XML, up to its end. -/
inductive XRead : List Int → List Int → Prop
  | nil : XRead [] []
  | plain (c : Int) (h : 32 ≤ c ∧ c < 256 ∧ c ≠ 34 ∧ c ≠ 38 ∧ c ≠ 60 ∧ c ≠ 62) {a b : List Int} (k : XRead a b) : XRead (c :: a) (c :: b)
  | ref (x : Int) (nm : List Int) (h : xname x = some nm) {a b : List Int} (k : XRead a b) : XRead (38 :: (nm ++ 59 :: a)) (utf8E x ++ b)
theorem XRead.plains {a b : List Int} (k : XRead a b) : ∀ l : List Int, (∀ c ∈ l, 32 ≤ c ∧ c < 256 ∧ c ≠ 34 ∧ c ≠ 38 ∧ c ≠ 60 ∧ c ≠ 62) → XRead (l ++ a) (l ++ b)
  | [], _ => k
  | c :: l, h => .plain c (h c (by simp)) (k.plains l (fun d hd => h d (by simp [hd])))
end H
end Go.Proofs.YtkihaebaccdjdaaGreatDoor
