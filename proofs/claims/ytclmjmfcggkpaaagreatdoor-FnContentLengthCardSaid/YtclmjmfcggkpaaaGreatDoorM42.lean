import Derived.Test.YtclmjmfcggkpaaaGreatDoorM38
import Derived.Test.YtclmjmfcggkpaaaGreatDoorM39
import Derived.Test.YtclmjmfcggkpaaaGreatDoorM41
set_option linter.unusedVariables false
set_option linter.unusedSimpArgs false
namespace Go.Proofs.YtclmjmfcggkpaaaGreatDoor
open Go.RowKit Go.Proofs.YtclmjmfcggkpaaaGreatDoorW.PrintWords Go.Proofs.YtclmjmfcggkpaaaGreatDoorW.PrintLast Go.Proofs.YtclmjmfcggkpaaaGreatDoorW.PrintMore
open PX
namespace HH
open H
theorem raise {α : Type} {f : Nat → Option α} (h : ∀ k, LeO (f k) (f (k + 1))) {k k' : Nat} (hk : k ≤ k') {r : α} (e : f k = some r) : f k' = some r := by
  induction k' with
  | zero =>
    have : k = 0 := by omega
    subst this
    exact e
  | succ n ih =>
    rcases Nat.lt_or_ge n k with h1 | h1
    · obtain rfl : k = n + 1 := by omega
      exact e
    · exact h n r (ih h1)
def hwB (p : ByteArray) : Bool := wordL (bytesOf p) && decide (65 ≤ bt p 0) && decide (bt p 0 ≤ 90) && decide ((p.extract 1 p.size).toList = (strOfNums (smallL (bytesOf (p.extract 1 p.size)))).toList)
def hnB (s : ByteArray) : Bool := (partsB 45 s).all hwB
theorem rdOf_drop' (l : List ByteArray) (k : Nat) (h : k < l.length) : l.drop k = rdOf ByteArray.empty l (k : Int) :: l.drop (k + 1) := by
  rw [List.drop_eq_getElem_cons h]
  simp [rdOf, List.getElem?_eq_getElem h, h]
theorem cutL_eq2 (s : ByteArray) (c : Int) (hs : s.size ≤ 1099511627776) : ∀ (n k i : Nat), k + n = i → i ≤ s.size → (∀ j : Nat, j < i → bt s j ≠ c) → (i < s.size → bt s i = c) → ∀ F, n + 1 ≤ F →
    spec_cut.l0 F s c (s.size : Int) (k : Int) = some (if i < s.size then (s.extract 0 i, s.extract (i + 1) s.size, true) else (s, ⟨#[]⟩, false)) := by
  intro n
  induction n with
  | zero =>
    intro k i hk hle hno hat F hF
    obtain rfl : k = i := by omega
    match F, hF with
    | F + 1, _ =>
      rw [spec_cut.l0]
      by_cases hlt : k < s.size
      · rw [if_pos (by omega), if_pos (by omega), if_pos (by omega), if_pos (hat hlt), if_pos (by omega), wr1 k s.size hlt (by omega), if_pos (by omega), if_pos (by omega), if_pos hlt]
        rfl
      · rw [if_neg (by omega), if_neg hlt]
  | succ n ih =>
    intro k i hk hle hno hat F hF
    match F, hF with
    | F + 1, hF =>
      rw [spec_cut.l0, if_pos (by omega), if_pos (by omega), if_pos (by omega), if_neg (hno k (by omega)), wr1 k s.size (by omega) (by omega)]
      exact ih (k + 1) i (by omega) hle hno hat F (by omega)
theorem split_eq2 (c : Int) : ∀ (n : Nat) (s : ByteArray) (acc : List ByteArray), s.size ≤ n → s.size ≤ 1099511627776 → acc.length + s.size ≤ 8000000000000 → ∀ F, s.size + 2 ≤ F →
    spec_split.l0 F s c acc = some (acc ++ partsB c s) := by
  intro n
  induction n with
  | zero =>
    intro s acc hn hs hacc F hF
    match F, hF with
    | F + 1, hF =>
      have h0 : s.size = 0 := by omega
      have hl : bytesOf s = [] := List.length_eq_zero_iff.1 (by rw [bytesOf_length]; exact h0)
      have hc : spec_cut.l0 F s c (s.size : Int) 0 = _ := cutL_eq2 s c hs 0 0 0 rfl (by omega) (fun j hj => by omega) (fun h => by omega) F (by omega)
      rw [spec_split.l0, spec_cut.f, hc, if_neg (by omega)]
      simp only [Option.bind_some, Bool.false_eq_true, if_false]
      rw [if_pos (by omega)]
      have e : strOfNums [] = s := by rw [← hl, strOf_bytesOf]
      simp [partsB, hl, splitL, e]
  | succ n ih =>
    intro s acc hn hs hacc F hF
    match F, hF with
    | F + 1, hF =>
      obtain ⟨i, hi, hno, hat⟩ := fst_at s c
      have hc : spec_cut.l0 F s c (s.size : Int) 0 = _ := cutL_eq2 s c hs i 0 i (by omega) hi hno hat F (by omega)
      have hbl := bytesOf_length s
      have hpre : ∀ x ∈ (bytesOf s).take i, x ≠ c := by
        intro x hx
        obtain ⟨j, hj, rfl⟩ := List.mem_iff_getElem.1 hx
        simp only [List.length_take] at hj
        rw [List.getElem_take, bytes_at s j (by omega)]
        exact hno j (by omega)
      rw [spec_split.l0, spec_cut.f, hc]
      by_cases hlt : i < s.size
      · rw [if_pos hlt]
        simp only [Option.bind_some, if_true]
        rw [if_pos (by omega)]
        have hz : (s.extract (i + 1) s.size).size = s.size - (i + 1) := by simp
        rw [ih _ _ (by omega) (by omega) (by simp; omega) F (by omega)]
        have e1 : bytesOf (s.extract 0 i) = (bytesOf s).take i := by rw [bytes_ext]; simp
        have e2 : bytesOf (s.extract (i + 1) s.size) = (bytesOf s).drop (i + 1) := by
          rw [bytes_ext, List.take_of_length_le (by rw [List.length_drop, hbl]; omega)]
        have e3 : bytesOf s = (bytesOf s).take i ++ c :: (bytesOf s).drop (i + 1) := by
          conv => lhs; rw [← List.take_append_drop i (bytesOf s)]
          rw [drop_bt s i hlt, hat hlt]
        have e4 : partsB c s = s.extract 0 i :: partsB c (s.extract (i + 1) s.size) := by
          unfold partsB
          rw [e2]
          conv => lhs; rw [e3]
          rw [splitL_at hpre, List.map_cons, ← e1, strOf_bytesOf]
        rw [e4]
        simp
      · rw [if_neg hlt]
        simp only [Option.bind_some, Bool.false_eq_true, if_false]
        rw [if_pos (by omega)]
        have e5 : (bytesOf s).take i = bytesOf s := List.take_of_length_le (by omega)
        rw [e5] at hpre
        simp [partsB, splitL_no hpre, strOf_bytesOf]
theorem wordL_len {l : List Int} (h : wordL l = true) : l.length ≤ 50 := by
  cases l with
  | nil => cases h
  | cons c r =>
    unfold wordL at h
    rw [Bool.and_eq_true, decide_eq_true_eq] at h
    simpa using h.2
theorem hn_l0 (ps : List ByteArray) (hl : ps.length ≤ 9223372036854775807) (hz : ∀ p ∈ ps, p.size ≤ 1099511627776) : ∀ (n k : Nat), n = ps.length - k → k ≤ ps.length →
    ∃ F, spec_IsHeaderName.l0 F ps (ps.length : Int) (k : Int) = some ((ps.drop k).all hwB) := by
  intro n
  induction n with
  | zero =>
    intro k hn hk
    obtain rfl : k = ps.length := by omega
    refine ⟨1, ?_⟩
    rw [spec_IsHeaderName.l0, if_neg (by omega), List.drop_of_length_le (Nat.le_refl _)]
    rfl
  | succ n ih =>
    intro k hn hk
    have hlt : k < ps.length := by omega
    obtain ⟨F, hF⟩ := ih (k + 1) (by omega) (by omega)
    have hd := rdOf_drop' ps k hlt
    have hm : rdOf ByteArray.empty ps (k : Int) ∈ ps := List.mem_of_mem_drop (i := k) (by rw [hd]; exact List.mem_cons_self)
    have hs := hz _ hm
    rw [hd]
    have hstep := fun F => spec_IsHeaderName.l0.eq_2 ps (ps.length : Int) (k : Int) F
    generalize rdOf ByteArray.empty ps (k : Int) = p at *
    have hw := isWord_eq p (by omega)
    refine ⟨max F (p.size + 1) + 1, ?_⟩
    have h1 := raise (f := fun k => spec_isWord.f k p) (fun k => spec_isWord.mono p k) (Nat.le_max_right F (p.size + 1)) hw
    have h2 := raise (f := fun F => spec_IsHeaderName.l0 F ps (ps.length : Int) ((k + 1 : Nat) : Int)) (fun F => (spec_IsHeaderName.mono_l F) _ _ _) (Nat.le_max_left F (p.size + 1)) hF
    generalize max F (p.size + 1) = F' at *
    rw [hstep, if_pos (by omega), if_pos (by omega), if_pos (by omega), h1, wr1' k ps.length hlt hl, h2]
    simp only [Option.bind_some, List.all_cons]
    unfold hwB
    cases hwl : wordL (bytesOf p) with
    | false => simp
    | true =>
      have hp50 := wordL_len hwl
      rw [bytesOf_length] at hp50
      have hp : 0 < p.size := by
        rcases Nat.eq_zero_or_pos p.size with h0 | h0
        · have : bytesOf p = [] := List.eq_nil_of_length_eq_zero (by rw [bytesOf_length]; exact h0)
          rw [this] at hwl
          cases hwl
        · exact h0
      rw [if_pos rfl, if_pos (by omega)]
      by_cases g1 : bt p 0 < 65
      · rw [if_pos g1]
        have : decide (65 ≤ bt p 0) = false := decide_eq_false (by omega)
        simp [this]
      · rw [if_neg g1]
        by_cases g2 : bt p 0 > 90
        · rw [if_pos g2]
          have : decide (bt p 0 ≤ 90) = false := decide_eq_false (by omega)
          simp [this]
        · rw [if_neg g2, if_pos (by omega)]
          have e1 : decide (65 ≤ bt p 0) = true := decide_eq_true (by omega)
          have e2 : decide (bt p 0 ≤ 90) = true := decide_eq_true (by omega)
          unfold spec_small.f
          rw [if_pos (by simp; omega), e1, e2]
          simp only [Option.bind_some, Bool.true_and]
          split
          · rename_i h; rw [decide_eq_true h]; simp
          · rename_i h; rw [decide_eq_false h]; simp
theorem hn_eq (s : ByteArray) (hs : s.size ≤ 1099511627776) : ∃ F, spec_IsHeaderName.f F s = some (hnB s) := by
  obtain ⟨F, hF⟩ := hn_l0 (partsB 45 s) (by have := parts_len 45 s; omega) (fun p hp => by have := parts_size hp; omega) _ 0 rfl (by omega)
  refine ⟨max F (s.size + 2), ?_⟩
  have h1 := raise (f := fun F => spec_IsHeaderName.l0 F (partsB 45 s) ((partsB 45 s).length : Int) ((0 : Nat) : Int)) (fun F => (spec_IsHeaderName.mono_l F) _ _ _) (Nat.le_max_left F (s.size + 2)) hF
  have h2 : spec_split.f (max F (s.size + 2)) s 45 = some (partsB 45 s) := by
    have := split_eq2 45 s.size s [] (Nat.le_refl _) hs (by simp; omega) (max F (s.size + 2)) (Nat.le_max_right _ _)
    simpa [spec_split.f] using this
  unfold spec_IsHeaderName.f
  rw [h2]
  simp only [Option.bind_some]
  rw [List.drop_zero] at h1
  exact h1
end HH
end Go.Proofs.YtclmjmfcggkpaaaGreatDoor
