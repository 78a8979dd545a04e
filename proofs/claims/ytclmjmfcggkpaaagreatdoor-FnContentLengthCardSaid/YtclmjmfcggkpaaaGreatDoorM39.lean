import Derived.Test.YtclmjmfcggkpaaaGreatDoorM35
import Derived.Test.YtclmjmfcggkpaaaGreatDoorM38
set_option linter.unusedVariables false
set_option linter.unusedSimpArgs false
namespace Go.Proofs.YtclmjmfcggkpaaaGreatDoor
open Go.RowKit Go.Proofs.YtclmjmfcggkpaaaGreatDoorW.PrintWords Go.Proofs.YtclmjmfcggkpaaaGreatDoorW.PrintLast Go.Proofs.YtclmjmfcggkpaaaGreatDoorW.PrintMore
open PX
namespace H
/-! ### A text cut at a byte -/
/-- The parts of a text between such bytes. -/
def splitL (c : Int) : List Int → List (List Int)
  | [] => [[]]
  | x :: xs => if x = c then [] :: splitL c xs else match splitL c xs with
    | p :: ps => (x :: p) :: ps
    | [] => [[x]]
theorem splitL_ne (c : Int) (l : List Int) : splitL c l ≠ [] := by
  cases l with
  | nil => simp [splitL]
  | cons x xs => simp only [splitL]; split; simp; split <;> simp
theorem splitL_no {c : Int} {l : List Int} (h : ∀ x ∈ l, x ≠ c) : splitL c l = [l] := by
  induction l with
  | nil => rfl
  | cons x xs ih =>
    simp only [splitL]
    rw [if_neg (h x (by simp)), ih (fun y hy => h y (by simp [hy]))]
theorem splitL_at {c : Int} {a b : List Int} (h : ∀ x ∈ a, x ≠ c) : splitL c (a ++ c :: b) = a :: splitL c b := by
  induction a with
  | nil => simp [splitL]
  | cons x xs ih =>
    simp only [List.cons_append, splitL]
    rw [if_neg (h x (by simp)), ih (fun y hy => h y (by simp [hy]))]
theorem splitL_len (c : Int) (l : List Int) : (splitL c l).length ≤ l.length + 1 := by
  induction l with
  | nil => simp [splitL]
  | cons x xs ih =>
    simp only [splitL, List.length_cons]
    split
    · simp; omega
    · split
      · rename_i p ps e
        rw [e] at ih
        simp at ih ⊢
        omega
      · simp
/-- Joined again, a byte ahead of each part. -/
theorem splitL_join (c : Int) (l : List Int) : (splitL c l).flatMap (c :: ·) = c :: l := by
  induction l with
  | nil => simp [splitL]
  | cons x xs ih =>
    simp only [splitL]
    split
    · rename_i e
      subst e
      simp [ih]
    · split
      · rename_i p ps e
        rw [e] at ih
        simp at ih ⊢
        exact ih
      · rename_i e
        exact absurd e (splitL_ne c xs)
def partsB (c : Int) (s : ByteArray) : List ByteArray := (splitL c (bytesOf s)).map strOfNums
theorem fst_at (s : ByteArray) (c : Int) : ∃ i, i ≤ s.size ∧ (∀ j : Nat, j < i → bt s j ≠ c) ∧ (i < s.size → bt s i = c) := by
  have : ∀ (n k : Nat), k + n = s.size → (∀ j : Nat, j < k → bt s j ≠ c) → ∃ i, i ≤ s.size ∧ (∀ j : Nat, j < i → bt s j ≠ c) ∧ (i < s.size → bt s i = c) := by
    intro n
    induction n with
    | zero => intro k hk hn; exact ⟨k, by omega, hn, fun h => by omega⟩
    | succ n ih =>
      intro k hk hn
      by_cases h : bt s k = c
      · exact ⟨k, by omega, hn, fun _ => h⟩
      · refine ih (k + 1) (by omega) (fun j hj => ?_)
        rcases Nat.lt_or_ge j k with h1 | h1
        · exact hn j h1
        · obtain rfl : j = k := by omega
          exact h
  exact this s.size 0 (by omega) (fun j hj => by omega)
theorem bytes_at (s : ByteArray) (k : Nat) (h : k < s.size) : (bytesOf s)[k]'(by rw [bytesOf_length]; exact h) = bt s k := by
  have := drop_bt s k h
  rw [List.drop_eq_getElem_cons (by rw [bytesOf_length]; exact h)] at this
  exact (List.cons.inj this).1
/-! ### Literals -/
end H
end Go.Proofs.YtclmjmfcggkpaaaGreatDoor
set_option linter.unusedVariables false
set_option linter.unusedSimpArgs false
namespace Go.Proofs.YtclmjmfcggkpaaaGreatDoor
open Go.RowKit Go.Proofs.YtclmjmfcggkpaaaGreatDoorW.PrintWords Go.Proofs.YtclmjmfcggkpaaaGreatDoorW.PrintLast Go.Proofs.YtclmjmfcggkpaaaGreatDoorW.PrintMore
open PX
namespace H
theorem parts_len (c : Int) (s : ByteArray) : (partsB c s).length ≤ s.size + 1 := by
  have := splitL_len c (bytesOf s)
  rw [bytesOf_length] at this
  simpa [partsB] using this
theorem parts_size {c : Int} {s p : ByteArray} (h : p ∈ partsB c s) : p.size ≤ s.size := by
  obtain ⟨q, hq, rfl⟩ := List.mem_map.1 h
  have hj := splitL_join c (bytesOf s)
  have : ∀ (L : List (List Int)), q ∈ L → q.length + 1 ≤ (L.flatMap (c :: ·)).length := by
    intro L
    induction L with
    | nil => intro h; cases h
    | cons x L ih =>
      intro h
      simp only [List.flatMap_cons, List.length_append, List.length_cons]
      rcases List.mem_cons.1 h with rfl | h
      · omega
      · have := ih h; omega
  have h2 := this _ hq
  rw [hj] at h2
  simp only [List.length_cons, bytesOf_length] at h2
  rw [strOfNums_size]
  omega
end H
end Go.Proofs.YtclmjmfcggkpaaaGreatDoor
set_option linter.unusedVariables false
set_option linter.unusedSimpArgs false
namespace Go.Proofs.YtclmjmfcggkpaaaGreatDoor
open Go.RowKit Go.Proofs.YtclmjmfcggkpaaaGreatDoorW.PrintWords Go.Proofs.YtclmjmfcggkpaaaGreatDoorW.PrintLast Go.Proofs.YtclmjmfcggkpaaaGreatDoorW.PrintMore
namespace H
end H
end Go.Proofs.YtclmjmfcggkpaaaGreatDoor
