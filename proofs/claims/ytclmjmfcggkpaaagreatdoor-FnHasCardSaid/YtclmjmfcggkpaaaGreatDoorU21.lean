import Derived.Test.YtclmjmfcggkpaaaGreatDoorU4
import Derived.Test.YtclmjmfcggkpaaaGreatDoorU20
import Derived.Test.YtclmjmfcggkpaaaGreatDoorU7
import Derived.Test.YtclmjmfcggkpaaaGreatDoorU12
import Derived.Test.YtclmjmfcggkpaaaGreatDoorU16
namespace Go.Proofs.YtclmjmfcggkpaaaGreatDoor.PX
open Go.RowKit Go.Proofs.YtclmjmfcggkpaaaGreatDoorW.PrintWords Go.Proofs.YtclmjmfcggkpaaaGreatDoorW.PrintLast Go.Proofs.YtclmjmfcggkpaaaGreatDoorW.PrintMore
attribute [local go_sem] max2_int min2_int max_two min_two max_three min_three max_four min_four   -- for this text's walks alone
set_option linter.unusedVariables false
set_option linter.unusedSimpArgs false

/-! ### spec_isUnreserved: function 52 -/
end Go.Proofs.YtclmjmfcggkpaaaGreatDoor.PX
namespace Go.Proofs.YtclmjmfcggkpaaaGreatDoor.PX
open Go.RowKit Go.Proofs.YtclmjmfcggkpaaaGreatDoorW.PrintWords Go.Proofs.YtclmjmfcggkpaaaGreatDoorW.PrintLast Go.Proofs.YtclmjmfcggkpaaaGreatDoorW.PrintMore
attribute [local go_sem] max2_int min2_int max_two min_two max_three min_three max_four min_four   -- for this text's walks alone
set_option linter.unusedVariables false
set_option linter.unusedSimpArgs false

/-! ### spec_bigDigit: function 58 -/
end Go.Proofs.YtclmjmfcggkpaaaGreatDoor.PX
namespace Go.Proofs.YtclmjmfcggkpaaaGreatDoor.PX
open Go.RowKit Go.Proofs.YtclmjmfcggkpaaaGreatDoorW.PrintWords Go.Proofs.YtclmjmfcggkpaaaGreatDoorW.PrintLast Go.Proofs.YtclmjmfcggkpaaaGreatDoorW.PrintMore
attribute [local go_sem] max2_int min2_int max_two min_two max_three min_three max_four min_four   -- for this text's walks alone
set_option linter.unusedVariables false
set_option linter.unusedSimpArgs false

/-! ### spec_Escaped: function 29 -/
end Go.Proofs.YtclmjmfcggkpaaaGreatDoor.PX
namespace Go.Proofs.YtclmjmfcggkpaaaGreatDoor.PX
open Go.RowKit Go.Proofs.YtclmjmfcggkpaaaGreatDoorW.PrintWords Go.Proofs.YtclmjmfcggkpaaaGreatDoorW.PrintLast Go.Proofs.YtclmjmfcggkpaaaGreatDoorW.PrintMore
attribute [local go_sem] max2_int min2_int max_two min_two max_three min_three max_four min_four   -- for this text's walks alone
set_option linter.unusedVariables false
set_option linter.unusedSimpArgs false

/-! ### spec_isLiteral: function 65 -/
end Go.Proofs.YtclmjmfcggkpaaaGreatDoor.PX
set_option linter.unusedVariables false
set_option linter.unusedSimpArgs false
namespace Go.Proofs.YtclmjmfcggkpaaaGreatDoor
open Go.RowKit Go.Proofs.YtclmjmfcggkpaaaGreatDoorW.PrintWords Go.Proofs.YtclmjmfcggkpaaaGreatDoorW.PrintLast Go.Proofs.YtclmjmfcggkpaaaGreatDoorW.PrintMore
open PX
namespace H
/-! ### Words and labels, in plain lists -/
def isLet (c : Int) : Bool := decide (97 ≤ c ∧ c ≤ 122) || decide (65 ≤ c ∧ c ≤ 90)
def isDig (c : Int) : Bool := decide (48 ≤ c ∧ c ≤ 57)
def wordFrom (l : List Int) : Bool := l.all (fun c => isLet c || isDig c)
def wordL : List Int → Bool
 | [] => false
 | c :: r => isLet c && wordFrom r && decide (r.length + 1 ≤ 50)
theorem drop_bt (s : ByteArray) (k : Nat) (h : k < s.size) : (bytesOf s).drop k = bt s k :: (bytesOf s).drop (k + 1) := by
 rw [List.drop_eq_getElem_cons (by rw [bytesOf_length]; exact h)]
 congr 1
 have := rd_bytesOf s (k : Int)
 simp only [rd, Int.toNat_natCast] at this
 rw [← this, List.getD_eq_getElem?_getD, List.getElem?_eq_getElem (by rw [bytesOf_length]; exact h)]
 rfl
theorem size_data (s : ByteArray) : s.data.toList.length = s.size := by rw [Array.length_toList]; rfl
theorem toList_nil (s : ByteArray) : s.toList = [] ↔ s.size = 0 := by
 rw [ByteArray.toList_eq, ← List.length_eq_zero_iff, size_data]
theorem wr1 (k n : Nat) (h : k < n) (hn : n ≤ 140737488355328) : wrap64 ((k : Int) + 1) = ((k + 1 : Nat) : Int) := by unfold wrap64; omega
theorem wstep (c x8 : Int) (R : Option Bool) : (if c ≥ 97 then (if c ≤ 122 then R else (if c ≥ 65 then (if c ≤ 90 then R else (if x8 = 0 then (some false) else (if c < 48 then (some false) else (if c > 57 then (some false) else R)))) else (if x8 = 0 then (some false) else (if c < 48 then (some false) else (if c > 57 then (some false) else R))))) else (if c ≥ 65 then (if c ≤ 90 then R else (if x8 = 0 then (some false) else (if c < 48 then (some false) else (if c > 57 then (some false) else R)))) else (if x8 = 0 then (some false) else (if c < 48 then (some false) else (if c > 57 then (some false) else R))))) =
 if isLet c = true then R else if x8 = 0 then some false else if isDig c = true then R else some false := by
 have e1 : isLet c = true ↔ (97 ≤ c ∧ c ≤ 122) ∨ (65 ≤ c ∧ c ≤ 90) := by simp [isLet]
 have e2 : isDig c = true ↔ 48 ≤ c ∧ c ≤ 57 := by simp [isDig]
 simp only [e1, e2]
 repeat' split
 all_goals first | rfl | (exfalso; omega)
theorem isWord_from (s : ByteArray) (hs : s.size ≤ 140737488355328) : ∀ (n k : Nat), n = s.size - k → 1 ≤ k → k ≤ s.size → ∀ F, n + 1 ≤ F →
 spec_isWord.l0 F s (s.size : Int) (k : Int) = some (wordFrom ((bytesOf s).drop k) && decide (s.size ≤ 50)) := by
 intro n
 induction n with
 | zero =>
   intro k hn h1 hk F hF
   obtain rfl : k = s.size := by omega
   cases F with
   | zero => omega
   | succ F =>
     have hne : s.toList ≠ [] := by rw [Ne, toList_nil]; omega
     rw [spec_isWord.l0]
     rw [if_neg (by omega), if_neg hne]
     rw [List.drop_of_length_le (by rw [bytesOf_length]; exact Nat.le_refl _)]
     simp [wordFrom]
     omega
 | succ n ih =>
   intro k hn h1 hk F hF
   have hlt : k < s.size := by omega
   cases F with
   | zero => omega
   | succ F =>
     have IH := ih (k + 1) (by omega) (by omega) (by omega) F (by omega)
     rw [drop_bt s k hlt, spec_isWord.l0]
     rw [if_pos (by omega), if_pos (by omega), if_pos (by omega), wstep, wr1 k s.size hlt hs, IH, if_neg (by omega : ¬ ((k : Int) = 0))]
     simp only [wordFrom, List.all_cons]
     cases isLet (bt s (k : Int)) <;> cases isDig (bt s (k : Int)) <;> simp
theorem isWord_eq (s : ByteArray) (hs : s.size ≤ 140737488355328) : spec_isWord.f (s.size + 1) s = some (wordL (bytesOf s)) := by
 unfold spec_isWord.f
 by_cases h0 : s.size = 0
 ·have hl : bytesOf s = [] := List.length_eq_zero_iff.1 (by rw [bytesOf_length]; exact h0)
  have he : s.toList = [] := (toList_nil s).2 h0
  rw [hl, spec_isWord.l0]
  rw [if_neg (by omega), if_pos he]
  rfl
 ·have hd := drop_bt s 0 (by omega)
  simp only [List.drop_zero] at hd
  have hl := bytesOf_length s
  have IH := isWord_from s hs (s.size - 1) 1 (by omega) (by omega) (by omega) s.size (by omega)
  rw [hd] at hl ⊢
  simp only [List.length_cons] at hl
  simp only [Int.natCast_one] at IH
  have w1 : wrap64 ((0 : Int) + 1) = 1 := by unfold wrap64; omega
  rw [spec_isWord.l0]
  simp only [wordL]
  have W := wstep (bt s 0) 0 (spec_isWord.l0 s.size s (s.size : Int) 1)
  rw [if_pos (by omega), if_pos (by omega), if_pos (by omega), w1, hl]
  simp only [if_true] at W ⊢
  rw [W, IH]
  simp only [Int.ofNat_zero, Int.natCast_zero, Nat.zero_add]
  cases isLet (bt s 0) <;> simp
/-- The label that a name stands for: its name, greedy or not, and whether it is one. -/
def nameB (n : ByteArray) : ByteArray × Bool × Bool :=
 if bt n ((n.size : Int) - 1) = 43 then (n.extract 0 (n.size - 1), true, wordL (bytesOf (n.extract 0 (n.size - 1))))
 else (n, false, wordL (bytesOf n))
/-- The label that a part of a path is. -/
def labelB (s : ByteArray) : ByteArray × Bool × Bool :=
 if s.size < 3 ∨ bt s 0 ≠ 123 ∨ bt s ((s.size : Int) - 1) ≠ 125 then (⟨#[]⟩, false, false) else nameB (s.extract 1 (s.size - 1))
end H
namespace PX
def spec_label.f (a0 : ByteArray) : Option (ByteArray × Bool × Bool) := if a0.size ≤ 2147483647 then some (H.labelB a0) else none
end PX
end Go.Proofs.YtclmjmfcggkpaaaGreatDoor
set_option linter.unusedVariables false
set_option linter.unusedSimpArgs false
namespace Go.Proofs.YtclmjmfcggkpaaaGreatDoor
open Go.RowKit Go.Proofs.YtclmjmfcggkpaaaGreatDoorW.PrintWords Go.Proofs.YtclmjmfcggkpaaaGreatDoorW.PrintLast Go.Proofs.YtclmjmfcggkpaaaGreatDoorW.PrintMore
open PX
namespace H
/-! ### A path of literals and labels; where a label stands -/
inductive Part where
 | lit (b : List Int)
 | lab (n : List Int) (gr : Bool)
def tail (gr : Bool) : List Int := if gr then [43, 125] else [125]
/-- What a part reads as, with values given to some names. -/
def rp (esc : Bool) (σ : List Int → Option (List Int)) : Part → List Int
 | .lit b => 47 :: b
 | .lab n gr => 47 :: (match σ n with
   | some v => if esc then escB gr v else v
   | none => 123 :: (n ++ tail gr))
def path (esc : Bool) (σ : List Int → Option (List Int)) (Q : List Part) : List Int := Q.flatMap (rp esc σ)
def noBr (l : List Int) : Prop := ∀ c ∈ l, c ≠ 123 ∧ c ≠ 125
/-- The literals, and the values given, have no braces; the names are words. -/
structure Fine (σ : List Int → Option (List Int)) (Q : List Part) : Prop where
 lit : ∀ b, Part.lit b ∈ Q → noBr b
 val : ∀ n gr v, Part.lab n gr ∈ Q → σ n = some v → noBr v ∧ ∀ c ∈ v, 0 ≤ c ∧ c ≤ 255
 name : ∀ n gr, Part.lab n gr ∈ Q → wordL n = true
def names (Q : List Part) : List (List Int) := Q.filterMap (fun q => match q with | .lab n _ => some n | .lit _ => none)
end H
end Go.Proofs.YtclmjmfcggkpaaaGreatDoor
set_option linter.unusedVariables false
set_option linter.unusedSimpArgs false
namespace Go.Proofs.YtclmjmfcggkpaaaGreatDoor
open Go.RowKit Go.Proofs.YtclmjmfcggkpaaaGreatDoorW.PrintWords Go.Proofs.YtclmjmfcggkpaaaGreatDoorW.PrintLast Go.Proofs.YtclmjmfcggkpaaaGreatDoorW.PrintMore
open PX
namespace H
theorem bytes_ext (s : ByteArray) (a b : Nat) : bytesOf (s.extract a b) = ((bytesOf s).drop a).take (b - a) := by
 have e : (s.extract a b).data.toList = (s.data.toList.drop a).take (b - a) := by simp [List.extract_eq_take_drop]
 unfold bytesOf
 rw [e, List.map_take, List.map_drop]
theorem bytes_inj {s t : ByteArray} (h : bytesOf s = bytesOf t) : s = t := by
 rw [← strOf_bytesOf s, ← strOf_bytesOf t, h]
end H
end Go.Proofs.YtclmjmfcggkpaaaGreatDoor
set_option linter.unusedVariables false
set_option linter.unusedSimpArgs false
namespace Go.Proofs.YtclmjmfcggkpaaaGreatDoor
open Go.RowKit Go.Proofs.YtclmjmfcggkpaaaGreatDoorW.PrintWords Go.Proofs.YtclmjmfcggkpaaaGreatDoorW.PrintLast Go.Proofs.YtclmjmfcggkpaaaGreatDoorW.PrintMore
open PX
namespace H
/-! ### A text cut at a byte -/
/-- The parts of a text between such bytes. -/
def splitL (c : Int) : List Int → List (List Int)
 | [] => [[]]
 | x :: xs => if x = c then [] :: splitL c xs else match splitL c xs with
   | p :: ps => (x :: p) :: ps
   | [] => [[x]]
theorem splitL_ne (c : Int) (l : List Int) : splitL c l ≠ [] := by
 cases l with
 | nil => simp [splitL]
 | cons x xs => simp only [splitL]; split; simp; split <;> simp
theorem splitL_no {c : Int} {l : List Int} (h : ∀ x ∈ l, x ≠ c) : splitL c l = [l] := by
 induction l with
 | nil => rfl
 | cons x xs ih =>
   simp only [splitL]
   rw [if_neg (h x (by simp)), ih (fun y hy => h y (by simp [hy]))]
theorem splitL_at {c : Int} {a b : List Int} (h : ∀ x ∈ a, x ≠ c) : splitL c (a ++ c :: b) = a :: splitL c b := by
 induction a with
 | nil => simp [splitL]
 | cons x xs ih =>
   simp only [List.cons_append, splitL]
   rw [if_neg (h x (by simp)), ih (fun y hy => h y (by simp [hy]))]
theorem splitL_len (c : Int) (l : List Int) : (splitL c l).length ≤ l.length + 1 := by
 induction l with
 | nil => simp [splitL]
 | cons x xs ih =>
   simp only [splitL, List.length_cons]
   split
   ·simp; omega
   ·split
    ·rename_i p ps e
     rw [e] at ih
     simp at ih ⊢
     omega
    ·simp
/-- Joined again, a byte ahead of each part. -/
theorem splitL_join (c : Int) (l : List Int) : (splitL c l).flatMap (c :: ·) = c :: l := by
 induction l with
 | nil => simp [splitL]
 | cons x xs ih =>
   simp only [splitL]
   split
   ·rename_i e
    subst e
    simp [ih]
   ·split
    ·rename_i p ps e
     rw [e] at ih
     simp at ih ⊢
     exact ih
    ·rename_i e
     exact absurd e (splitL_ne c xs)
theorem splitL_mem {c : Int} {l p : List Int} (h : p ∈ splitL c l) : (∀ x ∈ p, x ≠ c ∧ x ∈ l) := by
 induction l generalizing p with
 | nil =>
   simp [splitL] at h
   subst h
   simp
 | cons y ys ih =>
   simp only [splitL] at h
   split at h
   ·rcases List.mem_cons.1 h with rfl | h
    ·simp
    ·intro x hx
     obtain ⟨h1, h2⟩ := ih h x hx
     exact ⟨h1, by simp [h2]⟩
   ·rename_i hy
    split at h
    ·rename_i q qs e
     rcases List.mem_cons.1 h with rfl | h
     ·intro x hx
      rcases List.mem_cons.1 hx with rfl | hx
      ·exact ⟨hy, by simp⟩
      ·obtain ⟨h1, h2⟩ := ih (by rw [e]; simp) x hx
       exact ⟨h1, by simp [h2]⟩
     ·intro x hx
      obtain ⟨h1, h2⟩ := ih (by rw [e]; simp [h]) x hx
      exact ⟨h1, by simp [h2]⟩
    ·rename_i e
     exact absurd e (splitL_ne c ys)
def partsB (c : Int) (s : ByteArray) : List ByteArray := (splitL c (bytesOf s)).map strOfNums
theorem fst_at (s : ByteArray) (c : Int) : ∃ i, i ≤ s.size ∧ (∀ j : Nat, j < i → bt s j ≠ c) ∧ (i < s.size → bt s i = c) := by
 have : ∀ (n k : Nat), k + n = s.size → (∀ j : Nat, j < k → bt s j ≠ c) → ∃ i, i ≤ s.size ∧ (∀ j : Nat, j < i → bt s j ≠ c) ∧ (i < s.size → bt s i = c) := by
  intro n
  induction n with
  | zero => intro k hk hn; exact ⟨k, by omega, hn, fun h => by omega⟩
  | succ n ih =>
    intro k hk hn
    by_cases h : bt s k = c
    ·exact ⟨k, by omega, hn, fun _ => h⟩
    ·refine ih (k + 1) (by omega) (fun j hj => ?_)
     rcases Nat.lt_or_ge j k with h1 | h1
     ·exact hn j h1
     ·obtain rfl : j = k := by omega
      exact h
 exact this s.size 0 (by omega) (fun j hj => by omega)
theorem bytes_at (s : ByteArray) (k : Nat) (h : k < s.size) : (bytesOf s)[k]'(by rw [bytesOf_length]; exact h) = bt s k := by
 have := drop_bt s k h
 rw [List.drop_eq_getElem_cons (by rw [bytesOf_length]; exact h)] at this
 exact (List.cons.inj this).1
/-! ### Literals -/
end H
end Go.Proofs.YtclmjmfcggkpaaaGreatDoor
set_option linter.unusedVariables false
set_option linter.unusedSimpArgs false
namespace Go.Proofs.YtclmjmfcggkpaaaGreatDoor
open Go.RowKit Go.Proofs.YtclmjmfcggkpaaaGreatDoorW.PrintWords Go.Proofs.YtclmjmfcggkpaaaGreatDoorW.PrintLast Go.Proofs.YtclmjmfcggkpaaaGreatDoorW.PrintMore
open PX
namespace H
theorem parts_len (c : Int) (s : ByteArray) : (partsB c s).length ≤ s.size + 1 := by
 have := splitL_len c (bytesOf s)
 rw [bytesOf_length] at this
 simpa [partsB] using this
theorem parts_size {c : Int} {s p : ByteArray} (h : p ∈ partsB c s) : p.size ≤ s.size := by
 obtain ⟨q, hq, rfl⟩ := List.mem_map.1 h
 have hj := splitL_join c (bytesOf s)
 have : ∀ (L : List (List Int)), q ∈ L → q.length + 1 ≤ (L.flatMap (c :: ·)).length := by
  intro L
  induction L with
  | nil => intro h; cases h
  | cons x L ih =>
    intro h
    simp only [List.flatMap_cons, List.length_append, List.length_cons]
    rcases List.mem_cons.1 h with rfl | h
    ·omega
    ·have := ih h; omega
 have h2 := this _ hq
 rw [hj] at h2
 simp only [List.length_cons, bytesOf_length] at h2
 rw [strOfNums_size]
 omega
end H
end Go.Proofs.YtclmjmfcggkpaaaGreatDoor
set_option linter.unusedVariables false
set_option linter.unusedSimpArgs false
namespace Go.Proofs.YtclmjmfcggkpaaaGreatDoor
open Go.RowKit Go.Proofs.YtclmjmfcggkpaaaGreatDoorW.PrintWords Go.Proofs.YtclmjmfcggkpaaaGreatDoorW.PrintLast Go.Proofs.YtclmjmfcggkpaaaGreatDoorW.PrintMore
namespace H
end H
end Go.Proofs.YtclmjmfcggkpaaaGreatDoor
