import Derived.Test.YtkihaebaccdjdaaGreatDoorK19
set_option linter.unusedVariables false
set_option linter.unusedSimpArgs false
namespace Go.Proofs.YtkihaebaccdjdaaGreatDoor
namespace H
/-! ### What the encoder of JSON writes for a text is UTF-8, and reads back -/
/-- What stands for a sign. -/
def escR (x : Int) : List Int := if x < 128 then (if safeC x then [x] else escB x) else if x = 8232 ∨ x = 8233 then [92, 117, 50, 48, 50, hexD (x % 16)] else utf8E x
theorem esc_sign (x : Int) (h : okR x) (rest : List Int) (k : Nat) : esc decL (k + 1) (utf8E x ++ rest) = escR x ++ esc decL k rest := by
  have hd := decL_utf8E x rest h
  have hp := utf8E_pos x
  by_cases h1 : x < 128
  · have e : utf8E x = [x] := by unfold utf8E; rw [if_pos h1]
    rw [e]
    unfold escR
    simp only [List.cons_append, List.nil_append, esc, if_pos h1]
    split <;> simp
  · have hh := utf8E_high x h (by omega)
    obtain ⟨c, t, hu⟩ : ∃ c t, utf8E x = c :: t := by
      cases hq : utf8E x with
      | nil => rw [hq] at hp; simp at hp
      | cons c t => exact ⟨c, t, rfl⟩
    have hc := hh c (by rw [hu]; simp)
    have hn1 : ¬ ((c :: t).length = 1) := by
      rw [← hu]
      unfold utf8E
      rw [if_neg h1]
      repeat' split
      all_goals simp
    rw [hu, List.cons_append] at hd
    rw [hu, List.cons_append, esc, if_neg (by omega), hd]
    simp only
    rw [if_neg (by rintro ⟨_, e⟩; exact hn1 e)]
    unfold escR
    rw [if_neg h1]
    have e1 : (c :: (t ++ rest)).drop (c :: t).length = rest := by rw [← List.cons_append, List.drop_left]
    have e2 : (c :: (t ++ rest)).take (c :: t).length = c :: t := by rw [← List.cons_append, List.take_left]
    rw [e1, e2]
    split <;> simp [hu]
theorem esc_signs (xs : List Int) (h : ∀ x ∈ xs, okR x) : ∀ k, (xs.flatMap utf8E).length ≤ k → esc decL k (xs.flatMap utf8E) = xs.flatMap escR := by
  induction xs with
  | nil => intro k _; exact esc_nil _ _
  | cons x xs ih =>
    intro k hk
    have hp := utf8E_pos x
    rw [List.flatMap_cons] at hk ⊢
    rw [List.length_append] at hk
    obtain ⟨k', rfl⟩ : ∃ k', k = k' + 1 := ⟨k - 1, by omega⟩
    rw [esc_sign x (h x (by simp)), ih (fun y hy => h y (by simp [hy])) k' (by omega), List.flatMap_cons]
theorem hexD_rng (d : Int) (h0 : 0 ≤ d) (h1 : d < 16) : 48 ≤ hexD d ∧ hexD d < 128 := by unfold hexD; split <;> omega
theorem escB_ascii (x : Int) (h0 : 0 ≤ x) (h1 : x < 128) : ∀ y ∈ escB x, 0 ≤ y ∧ y < 128 := by
  intro y hy
  unfold escB at hy
  have a := hexD_rng (x / 16) (by omega) (by omega)
  have b := hexD_rng (x % 16) (by omega) (by omega)
  repeat' split at hy
  all_goals
    simp only [List.mem_cons, List.not_mem_nil, or_false] at hy
    omega
theorem escR_U8 (x : Int) (h : okR x) : U8 (fun _ => true) (escR x) := by
  unfold escR
  split
  · split
    · exact U8.ascii (fun y hy => by simp at hy; subst hy; exact ⟨h.1, by omega, rfl⟩)
    · exact U8.ascii (fun y hy => by have := escB_ascii x h.1 (by omega) y hy; exact ⟨this.1, this.2, rfl⟩)
  · split
    · refine U8.ascii (fun y hy => ?_)
      have a := hexD_rng (x % 16) (by omega) (by omega)
      simp only [List.mem_cons, List.not_mem_nil, or_false] at hy
      exact ⟨by omega, by omega, rfl⟩
    · exact ⟨[x], by simp [h], by simp⟩
theorem escRs_U8 (xs : List Int) (h : ∀ x ∈ xs, okR x) : U8 (fun _ => true) (xs.flatMap escR) := by
  induction xs with
  | nil => exact U8.nil _
  | cons x xs ih => rw [List.flatMap_cons]; exact (escR_U8 x (h x (by simp))).app (ih (fun y hy => h y (by simp [hy])))
/-- What stands behind a backslash, where it is one that the encoder writes. -/
inductive Esc1 : List Int → List Int → Prop
  | self (c : Int) (h : c = 34 ∨ c = 92) : Esc1 [c] [c]
  | n : Esc1 [110] [10]
  | r : Esc1 [114] [13]
  | t : Esc1 [116] [9]
  | u (a b c d : Int) (h0 : 0 ≤ a ∧ a < 16) (h1 : 0 ≤ b ∧ b < 16) (h2 : 0 ≤ c ∧ c < 16) (h3 : 0 ≤ d ∧ d < 16) (x : Int) (hx : x = ((a * 16 + b) * 16 + c) * 16 + d) (hs : x < 55296) : Esc1 [117, hexD a, hexD b, hexD c, hexD d] (utf8E x)
/-- A string of JSON, up to its end. -/
inductive Read1 : List Int → List Int → Prop
  | nil : Read1 [] []
  | plain (c : Int) (h : 32 ≤ c ∧ c < 256 ∧ c ≠ 34 ∧ c ≠ 92) {a b : List Int} (k : Read1 a b) : Read1 (c :: a) (c :: b)
  | esc {y z : List Int} (h : Esc1 y z) {a b : List Int} (k : Read1 a b) : Read1 (92 :: (y ++ a)) (z ++ b)
theorem Read1.plains {a b : List Int} (k : Read1 a b) : ∀ l : List Int, (∀ c ∈ l, 32 ≤ c ∧ c < 256 ∧ c ≠ 34 ∧ c ≠ 92) → Read1 (l ++ a) (l ++ b)
  | [], _ => k
  | c :: l, h => .plain c (h c (by simp)) (k.plains l (fun d hd => h d (by simp [hd])))
theorem escR_read (x : Int) (h : okR x) {a b : List Int} (k : Read1 a b) : Read1 (escR x ++ a) (utf8E x ++ b) := by
  obtain ⟨h0, h1, h2⟩ := h
  unfold escR
  split
  · rename_i hx
    have e : utf8E x = [x] := by unfold utf8E; rw [if_pos hx]
    split
    · rename_i hs
      obtain ⟨q1, q2, q3⟩ := hs
      rw [e]
      exact .plain x ⟨q1, by omega, q2, q3⟩ k
    · unfold escB
      split
      · rename_i hq
        rw [e]
        exact .esc (.self x (by omega)) k
      · split
        · rename_i hq; subst hq; rw [e]; exact .esc .n k
        · split
          · rename_i hq; subst hq; rw [e]; exact .esc .r k
          · split
            · rename_i hq; subst hq; rw [e]; exact .esc .t k
            · have := Esc1.u 0 0 (x / 16) (x % 16) (by omega) (by omega) (by omega) (by omega) x (by omega) (by omega)
              have e0 : hexD 0 = 48 := rfl
              rw [e0] at this
              exact .esc this k
  · split
    · rename_i hx hq
      have := Esc1.u 2 0 2 (x % 16) (by omega) (by omega) (by omega) (by omega) x (by omega) (by omega)
      have e0 : hexD 2 = 50 := rfl
      have e1 : hexD 0 = 48 := rfl
      rw [e0, e1] at this
      exact .esc this k
    · rename_i hx _
      refine k.plains _ (fun c hc => ?_)
      have a := utf8E_high x ⟨h0, h1, h2⟩ (by omega) c hc
      have b := utf8E_rng x ⟨h0, h1, h2⟩ c hc
      omega
theorem escRs_read (xs : List Int) (h : ∀ x ∈ xs, okR x) : Read1 (xs.flatMap escR) (xs.flatMap utf8E) := by
  induction xs with
  | nil => exact .nil
  | cons x xs ih => rw [List.flatMap_cons, List.flatMap_cons]; exact escR_read x (h x (by simp)) (ih (fun y hy => h y (by simp [hy])))
/-- What the encoder writes for a text in UTF-8. -/
theorem esc_good {l : List Int} (h : U8 (fun _ => true) l) (k : Nat) (hk : l.length ≤ k) : U8 (fun _ => true) (esc decL k l) ∧ Read1 (esc decL k l) l := by
  obtain ⟨xs, h1, rfl⟩ := h
  rw [esc_signs xs (fun x hx => (h1 x hx).1) k hk]
  exact ⟨escRs_U8 xs (fun x hx => (h1 x hx).1), escRs_read xs (fun x hx => (h1 x hx).1)⟩
end H
end Go.Proofs.YtkihaebaccdjdaaGreatDoor
