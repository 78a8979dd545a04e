import Derived.Test.YtkihaebaccdjdaaGreatDoorX12
set_option linter.unusedVariables false
set_option linter.unusedSimpArgs false
namespace Go.Proofs.YtkihaebaccdjdaaGreatDoor
namespace H
/-! ### UTF-8 on lists of numbers: the signs of a text -/
def utf8E (x : Int) : List Int :=
 if x < 128 then [x] else if x < 2048 then [192 + x / 64, 128 + x % 64]
 else if x < 65536 then [224 + x / 4096, 128 + x / 64 % 64, 128 + x % 64]
 else [240 + x / 262144, 128 + x / 4096 % 64, 128 + x / 64 % 64, 128 + x % 64]
def okR (x : Int) : Prop := 0 ≤ x ∧ x < 1114112 ∧ ¬ (55296 ≤ x ∧ x < 57344)
theorem decL_utf8E (x : Int) (rest : List Int) (h : okR x) : decL (utf8E x ++ rest) = (x, (utf8E x).length) := by
 obtain ⟨h0, h1, h2⟩ := h
 unfold utf8E decL Go.Lib.decodeN
 split
 ·simp
  rw [if_pos (by omega)]
  simp; omega
 ·split
  ·simp
   rw [if_neg (by omega), if_pos (by omega), if_pos (by omega)]
   simp; omega
  ·split
   ·simp
    rw [if_neg (by omega), if_neg (by omega), if_pos (by omega), if_pos (by omega)]
    simp; omega
   ·simp
    rw [if_neg (by omega), if_neg (by omega), if_neg (by omega), if_pos (by omega), if_pos (by omega)]
    simp; omega
/-- The bytes behind the first one. -/
def cont : Int → List Int → Option Int
 | x, [] => some x
 | x, d :: ds => if 128 ≤ d ∧ d < 192 then cont (x * 64 + (d - 128)) ds else none
def r0n (size : Nat) (least x : Int) (t : List Int) : Int × Nat × Bool :=
 if t.length + 1 < size then (0, 0, false) else
 match cont x (t.take (size - 1)) with
 | none => (0, 0, false)
 | some y => if y < least ∨ 1114111 < y ∨ (55296 ≤ y ∧ y < 57344) then (0, 0, false) else (y, size, true)
/-- spec.rune0 -/
def r0 : List Int → Int × Nat × Bool
 | [] => (0, 0, false)
 | c :: t => if c < 128 then (c, 1, true) else if 194 ≤ c ∧ c < 224 then r0n 2 128 (c - 192) t else if 224 ≤ c ∧ c < 240 then r0n 3 2048 (c - 224) t else if 240 ≤ c ∧ c < 245 then r0n 4 65536 (c - 240) t else (0, 0, false)
theorem r0_utf8E (x : Int) (rest : List Int) (h : okR x) : r0 (utf8E x ++ rest) = (x, (utf8E x).length, true) := by
 obtain ⟨h0, h1, h2⟩ := h
 unfold utf8E
 split
 ·simp [r0, *]
 ·split
  ·simp only [List.cons_append, List.nil_append, r0]
   rw [if_neg (by omega), if_pos (by omega)]
   simp only [r0n, List.length_cons, List.take_succ_cons, List.take_zero, cont, Nat.add_one_sub_one]
   rw [if_neg (by omega), if_pos (by omega)]
   dsimp only
   rw [if_neg (by omega)]
   simp; omega
  ·split
   ·simp only [List.cons_append, List.nil_append, r0]
    rw [if_neg (by omega), if_neg (by omega), if_pos (by omega)]
    simp only [r0n, List.length_cons, List.take_succ_cons, List.take_zero, cont, Nat.add_one_sub_one]
    rw [if_neg (by omega), if_pos (by omega), if_pos (by omega)]
    dsimp only
    rw [if_neg (by omega)]
    simp; omega
   ·simp only [List.cons_append, List.nil_append, r0]
    rw [if_neg (by omega), if_neg (by omega), if_neg (by omega), if_pos (by omega)]
    simp only [r0n, List.length_cons, List.take_succ_cons, List.take_zero, cont, Nat.add_one_sub_one]
    rw [if_neg (by omega), if_pos (by omega), if_pos (by omega), if_pos (by omega)]
    dsimp only
    rw [if_neg (by omega)]
    simp; omega
theorem r0_inv (l : List Int) (hr : ∀ x ∈ l, 0 ≤ x ∧ x < 256) {x : Int} {k : Nat} (h : r0 l = (x, k, true)) : okR x ∧ k = (utf8E x).length ∧ l = utf8E x ++ l.drop k := by
 have len2 : ∀ {y : Int} {t : List Int} {n : Nat}, cont y (t.take n) = none ∨ t.length < n ∨ ∃ a b, t = a ++ b ∧ a.length = n := fun {y t n} => by
  by_cases hn : t.length < n
  ·exact .inr (.inl hn)
  ·exact .inr (.inr ⟨t.take n, t.drop n, (List.take_append_drop n t).symm, by simp; omega⟩)
 cases l with
 | nil => simp [r0] at h
 | cons c t =>
   have hc := hr c (by simp)
   simp only [r0] at h
   split at h
   ·obtain ⟨rfl, rfl, _⟩ := by simpa using h
    refine ⟨⟨hc.1, by omega, by omega⟩, ?_, ?_⟩
    all_goals simp [utf8E, *]
   ·split at h
    ·unfold r0n at h
     split at h
     ·simp at h
     ·match t, h with
      | [], _ => simp at *
      | d :: t, h =>
        simp only [List.take_succ_cons, List.take_zero, cont, Nat.add_one_sub_one] at h
        split at h
        ·simp at h
        ·rename_i y hy
         split at hy
         ·injection hy with hy
          split at h
          ·simp at h
          ·obtain ⟨rfl, rfl, _⟩ := by simpa using h
           have hu : utf8E y = [c, d] := by
            unfold utf8E
            rw [if_neg (by omega), if_pos (by omega)]
            simp; omega
           exact ⟨⟨by omega, by omega, by omega⟩, by simp [hu], by simp [hu]⟩
         ·simp at hy
    ·split at h
     ·unfold r0n at h
      split at h
      ·simp at h
      ·match t, h with
       | [], _ => simp at *
       | [d], _ => simp at *
       | d :: e :: t, h =>
         simp only [List.take_succ_cons, List.take_zero, cont, Nat.add_one_sub_one] at h
         split at h
         ·simp at h
         ·rename_i y hy
          split at hy
          ·split at hy
           ·injection hy with hy
            split at h
            ·simp at h
            ·obtain ⟨rfl, rfl, _⟩ := by simpa using h
             have hu : utf8E y = [c, d, e] := by
              unfold utf8E
              rw [if_neg (by omega), if_neg (by omega), if_pos (by omega)]
              simp; omega
             exact ⟨⟨by omega, by omega, by omega⟩, by simp [hu], by simp [hu]⟩
           ·simp at hy
          ·simp at hy
     ·split at h
      ·unfold r0n at h
       split at h
       ·simp at h
       ·match t, h with
        | [], _ => simp at *
        | [d], _ => simp at *
        | [d, e], _ => simp at *
        | d :: e :: f :: t, h =>
          simp only [List.take_succ_cons, List.take_zero, cont, Nat.add_one_sub_one] at h
          split at h
          ·simp at h
          ·rename_i y hy
           split at hy
           ·split at hy
            ·split at hy
             ·injection hy with hy
              split at h
              ·simp at h
              ·obtain ⟨rfl, rfl, _⟩ := by simpa using h
               have hu : utf8E y = [c, d, e, f] := by
                unfold utf8E
                rw [if_neg (by omega), if_neg (by omega), if_neg (by omega)]
                simp; omega
               exact ⟨⟨by omega, by omega, by omega⟩, by simp [hu], by simp [hu]⟩
             ·simp at hy
            ·simp at hy
           ·simp at hy
      ·simp at h
theorem utf8E_pos (x : Int) : 0 < (utf8E x).length := by
 unfold utf8E
 repeat' split
 all_goals simp
theorem utf8E_rng (x : Int) (h : okR x) : ∀ y ∈ utf8E x, 0 ≤ y ∧ y < 256 := by
 obtain ⟨h0, h1, h2⟩ := h
 intro y hy
 unfold utf8E at hy
 split at hy
 ·simp at hy; omega
 ·split at hy
  ·simp at hy; omega
  ·split at hy
   ·simp at hy; omega
   ·simp at hy; omega
theorem utf8E_high (x : Int) (h : okR x) (h128 : 128 ≤ x) : ∀ y ∈ utf8E x, 128 ≤ y := by
 obtain ⟨h0, h1, h2⟩ := h
 intro y hy
 unfold utf8E at hy
 split at hy
 ·simp at hy; omega
 ·split at hy
  ·simp at hy; omega
  ·split at hy
   ·simp at hy; omega
   ·simp at hy; omega
/-- spec.areRunes (fuel: more than the bytes). -/
def runes (p : Int → Bool) : Nat → List Int → Bool
 | 0, _ => false
 | k + 1, l => if l = [] then true else if (r0 l).2.2 && p (r0 l).1 then runes p k (l.drop (r0 l).2.1) else false
/-- A text by its signs. -/
def U8 (p : Int → Bool) (l : List Int) : Prop := ∃ xs : List Int, (∀ x ∈ xs, okR x ∧ p x = true) ∧ l = xs.flatMap utf8E
theorem U8.nil (p : Int → Bool) : U8 p [] := ⟨[], by simp, rfl⟩
theorem U8.app {p : Int → Bool} {a b : List Int} (h : U8 p a) (k : U8 p b) : U8 p (a ++ b) := by
 obtain ⟨xs, h1, rfl⟩ := h
 obtain ⟨ys, h2, rfl⟩ := k
 exact ⟨xs ++ ys, fun x hx => (List.mem_append.1 hx).elim (h1 x) (h2 x), by simp⟩
theorem U8.ascii {p : Int → Bool} {a : List Int} (h : ∀ x ∈ a, 0 ≤ x ∧ x < 128 ∧ p x = true) : U8 p a := by
 refine ⟨a, fun x hx => ⟨⟨(h x hx).1, by have := h x hx; omega, by have := h x hx; omega⟩, (h x hx).2.2⟩, ?_⟩
 induction a with
 | nil => rfl
 | cons c t ih =>
   rw [List.flatMap_cons, ← ih (fun x hx => h x (by simp [hx]))]
   have := h c (by simp)
   simp [utf8E, this.2.1]
theorem runes_of (p : Int → Bool) (xs : List Int) (h : ∀ x ∈ xs, okR x ∧ p x = true) : ∀ k, (xs.flatMap utf8E).length < k → runes p k (xs.flatMap utf8E) = true := by
 induction xs with
 | nil => intro k hk; cases k with
   | zero => simp at hk
   | succ k => simp [runes]
 | cons x xs ih =>
   intro k hk
   cases k with
   | zero => simp at hk
   | succ k =>
     have hx := h x (by simp)
     have hp := utf8E_pos x
     have hne : (x :: xs).flatMap utf8E ≠ [] := fun e => by
      rw [List.flatMap_cons] at e
      have := congrArg List.length e
      rw [List.length_append, List.length_nil] at this
      omega
     unfold runes
     rw [if_neg hne, List.flatMap_cons, r0_utf8E x _ hx.1]
     simp only [hx.2, Bool.and_self, if_true, List.drop_left]
     refine ih (fun y hy => h y (by simp [hy])) k ?_
     rw [List.flatMap_cons, List.length_append] at hk
     omega
theorem U8.runes {p : Int → Bool} {l : List Int} (h : U8 p l) (k : Nat) (hk : l.length < k) : runes p k l = true := by
 obtain ⟨xs, h1, rfl⟩ := h
 exact runes_of p xs h1 k hk
theorem U8.of_runes {p : Int → Bool} : ∀ (k : Nat) (l : List Int), (∀ x ∈ l, 0 ≤ x ∧ x < 256) → H.runes p k l = true → U8 p l
 | 0, l, _, h => by simp [H.runes] at h
 | k + 1, l, hr, h => by
   unfold H.runes at h
   split at h
   ·rename_i hl; rw [hl]; exact U8.nil p
   ·split at h
    ·rename_i hq
     rw [Bool.and_eq_true] at hq
     obtain ⟨x, m, b, hx⟩ : ∃ x m b, r0 l = (x, m, b) := ⟨_, _, _, rfl⟩
     rw [hx] at hq h
     simp only at hq h
     obtain ⟨rfl, hp⟩ := hq
     obtain ⟨ho, hm, hl⟩ := r0_inv l hr hx
     obtain ⟨ys, h1, h2⟩ := U8.of_runes k (l.drop m) (fun y hy => hr y (List.mem_of_mem_drop hy)) h
     refine ⟨x :: ys, fun y hy => ?_, ?_⟩
     ·rcases List.mem_cons.1 hy with rfl | hy
      ·exact ⟨ho, hp⟩
      ·exact h1 y hy
     ·rw [List.flatMap_cons, ← h2]; exact hl
    ·simp at h
end H
end Go.Proofs.YtkihaebaccdjdaaGreatDoor
