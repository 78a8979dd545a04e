import Derived.Test.YtclmjmfcggkpaaaGreatDoorU44
import Derived.Test.YtclmjmfcggkpaaaGreatDoorU45
import Derived.Test.YtclmjmfcggkpaaaGreatDoorU47
import Derived.Test.YtclmjmfcggkpaaaGreatDoorU48
import Derived.Test.YtclmjmfcggkpaaaGreatDoorU49
set_option linter.unusedVariables false
set_option linter.unusedSimpArgs false
namespace Go.Proofs.YtclmjmfcggkpaaaGreatDoor
open Go.RowKit Go.Proofs.YtclmjmfcggkpaaaGreatDoorW.PrintWords Go.Proofs.YtclmjmfcggkpaaaGreatDoorW.PrintLast Go.Proofs.YtclmjmfcggkpaaaGreatDoorW.PrintMore
open PX
namespace HH
open H
/-! ### FnHas: what the spec's functions over queries tell -/
def OkQ (f : S48) : Prop := (f.f0 = 1 ∨ f.f0 = 2) ∧ 0 ≤ f.f3 ∧ f.f3 ≤ 6
theorem aq_l1 (fs : List S48) (hl : fs.length ≤ 2147483647) : ∀ (n k : Nat), n = fs.length - k → k ≤ fs.length → ∀ x5, ∃ F b, spec_AreQueries.l1 F [] fs x5 fs (fs.length : Int) (k : Int) = some b ∧ (b = true → (∀ (j : Nat) f, k ≤ j → fs[j]? = some f → OkQ f) ∧ fs.length ≤ 100) := by
 intro n
 induction n with
 | zero =>
   intro k hn hk x5
   by_cases h : fs.length ≤ 100
   ·exact ⟨1, _, by rw [spec_AreQueries.l1, if_neg (by omega), if_pos (by simp), if_pos (by omega)], fun _ => ⟨fun j f hj hf => by have := (List.getElem?_eq_some_iff.1 hf).1; omega, h⟩⟩
   ·exact ⟨1, false, by rw [spec_AreQueries.l1, if_neg (by omega), if_pos (by simp), if_neg (by omega)], fun h => by cases h⟩
 | succ n ih =>
   intro k hn hk x5
   have hlt : k < fs.length := by omega
   have hat := rd48_at fs k hlt
   generalize hf : rd_T48 fs (k : Int) = f at *
   obtain ⟨F, b, h1, h2⟩ := ih (k + 1) (by omega) (by omega) (wrap64 (x5 + (wrap64 ((f.f2.size : Int) + (f.f4.size : Int)))))
   have hs : ∀ (b1 : Bool), (∃ F, spec_AreQueries.l1 F [] fs x5 fs (fs.length : Int) (k : Int) = some b1) → (b1 = true → OkQ f ∧ b = true) → ∃ F b, spec_AreQueries.l1 F [] fs x5 fs (fs.length : Int) (k : Int) = some b ∧ (b = true → (∀ (j : Nat) f, k ≤ j → fs[j]? = some f → OkQ f) ∧ fs.length ≤ 100) := by
    rintro b1 ⟨F1, e1⟩ e2
    refine ⟨F1, b1, e1, fun hb => ?_⟩
    obtain ⟨q1, q2⟩ := e2 hb
    obtain ⟨q3, q4⟩ := h2 q2
    refine ⟨fun j g hj hg => ?_, q4⟩
    rcases Nat.eq_or_lt_of_le hj with rfl | hj
    ·rw [hat] at hg
     obtain rfl := Option.some.inj hg
     exact q1
    ·exact q3 j g hj hg
   by_cases c1 : f.f0 = 1
   ·by_cases c2 : f.f2.toList = ([] : List UInt8)
    ·exact hs false ⟨1, by rw [spec_AreQueries.l1, if_pos (by omega), if_pos (by omega), if_pos (by omega), hf, if_pos c1, if_pos c2]⟩ (fun h => by cases h)
    ·by_cases c3 : f.f3 < 0
     ·exact hs false ⟨1, by rw [spec_AreQueries.l1, if_pos (by omega), if_pos (by omega), if_pos (by omega), hf, if_pos c1, if_neg c2, if_pos c3]⟩ (fun h => by cases h)
     ·by_cases c4 : f.f3 > 6
      ·exact hs false ⟨1, by rw [spec_AreQueries.l1, if_pos (by omega), if_pos (by omega), if_pos (by omega), hf, if_pos c1, if_neg c2, if_neg c3, if_pos c4]⟩ (fun h => by cases h)
      ·exact hs b ⟨F + 1, by rw [spec_AreQueries.l1, if_pos (by omega), if_pos (by omega), if_pos (by omega), hf, if_pos c1, if_neg c2, if_neg c3, if_neg c4, wr1' k fs.length hlt (by omega)]; exact h1⟩ (fun h => ⟨⟨.inl c1, by omega, by omega⟩, h⟩)
   ·by_cases c0 : f.f0 = 2
    ·by_cases c2 : f.f2.toList = ([] : List UInt8)
     ·exact hs false ⟨1, by rw [spec_AreQueries.l1, if_pos (by omega), if_pos (by omega), if_pos (by omega), hf, if_neg c1, if_pos c0, if_pos c2]⟩ (fun h => by cases h)
     ·by_cases c3 : f.f3 < 0
      ·exact hs false ⟨1, by rw [spec_AreQueries.l1, if_pos (by omega), if_pos (by omega), if_pos (by omega), hf, if_neg c1, if_pos c0, if_neg c2, if_pos c3]⟩ (fun h => by cases h)
      ·by_cases c4 : f.f3 > 6
       ·exact hs false ⟨1, by rw [spec_AreQueries.l1, if_pos (by omega), if_pos (by omega), if_pos (by omega), hf, if_neg c1, if_pos c0, if_neg c2, if_neg c3, if_pos c4]⟩ (fun h => by cases h)
       ·exact hs b ⟨F + 1, by rw [spec_AreQueries.l1, if_pos (by omega), if_pos (by omega), if_pos (by omega), hf, if_neg c1, if_pos c0, if_neg c2, if_neg c3, if_neg c4, wr1' k fs.length hlt (by omega)]; exact h1⟩ (fun h => ⟨⟨.inr c0, by omega, by omega⟩, h⟩)
    ·exact hs false ⟨1, by rw [spec_AreQueries.l1, if_pos (by omega), if_pos (by omega), if_pos (by omega), hf, if_neg c1, if_neg c0]⟩ (fun h => by cases h)
theorem aq_eq (fs : List S48) (hl : fs.length ≤ 2147483647) : ∃ F b, spec_AreQueries.f F [] fs = some b ∧ (b = true → (∀ f ∈ fs, OkQ f) ∧ fs.length ≤ 100) := by
 obtain ⟨F, b, h1, h2⟩ := aq_l1 fs hl fs.length 0 (by omega) (by omega) 0
 refine ⟨F + 1, b, ?_, fun hb => ⟨fun f hf => ?_, (h2 hb).2⟩⟩
 ·unfold spec_AreQueries.f
  rw [spec_AreQueries.l0, if_neg (by simp)]
  exact h1
 ·obtain ⟨j, hj⟩ := List.mem_iff_getElem?.1 hf
  exact (h2 hb).1 j f (Nat.zero_le _) hj
/-- The fields' numbers are int64s, their texts not too long. -/
def FitT (f : S48) : Prop := f.f4.size ≤ 2147483647 ∧ -9223372036854775808 ≤ f.f5 ∧ f.f5 ≤ 9223372036854775807
theorem text_f (k : Nat) (f : S48) (h : FitT f) : spec_Text.f k f.f3 f.f4 f.f5 = some (textS f.f3 f.f4 f.f5) := by
 unfold spec_Text.f
 exact if_pos h
def full (f : S48) : Prop := (textS f.f3 f.f4 f.f5).toList ≠ []
theorem af_l0 (fs : List S48) (hl : fs.length ≤ 2147483647) (ht : ∀ f ∈ fs, FitT f) : ∀ (n k : Nat), n = fs.length - k → k ≤ fs.length → ∃ F b, spec_AreFilled.l0 F fs (fs.length : Int) (k : Int) = some b ∧ (b = true → ∀ (j : Nat) f, k ≤ j → fs[j]? = some f → full f) := by
 intro n
 induction n with
 | zero =>
   intro k hn hk
   exact ⟨1, true, by rw [spec_AreFilled.l0, if_neg (by omega)], fun _ j f hj hf => by have := (List.getElem?_eq_some_iff.1 hf).1; omega⟩
 | succ n ih =>
   intro k hn hk
   have hlt : k < fs.length := by omega
   have hat := rd48_at fs k hlt
   obtain ⟨F, b, h1, h2⟩ := ih (k + 1) (by omega) (by omega)
   have htf := text_f F _ (ht _ (List.mem_of_getElem? hat))
   by_cases c : (textS (rd_T48 fs (k : Int)).f3 (rd_T48 fs (k : Int)).f4 (rd_T48 fs (k : Int)).f5).toList = []
   ·refine ⟨F + 1, false, ?_, fun h => by cases h⟩
    rw [spec_AreFilled.l0, if_pos (by omega), if_pos (by omega), if_pos (by omega), htf, Option.bind_some, if_pos c]
   ·refine ⟨F + 1, b, ?_, fun hb j g hj hg => ?_⟩
    ·rw [spec_AreFilled.l0, if_pos (by omega), if_pos (by omega), if_pos (by omega), htf, Option.bind_some, if_neg c, wr1' k fs.length hlt (by omega)]
     exact h1
    ·rcases Nat.eq_or_lt_of_le hj with rfl | hj
     ·rw [hat] at hg
      obtain rfl := Option.some.inj hg
      exact c
     ·exact h2 hb j g hj hg
theorem af_eq (fs : List S48) (hl : fs.length ≤ 2147483647) (ht : ∀ f ∈ fs, FitT f) : ∃ F b, spec_AreFilled.f F fs = some b ∧ (b = true → ∀ f ∈ fs, full f) := by
 obtain ⟨F, b, h1, h2⟩ := af_l0 fs hl ht fs.length 0 (by omega) (by omega)
 refine ⟨F, b, h1, fun hb f hf => ?_⟩
 obtain ⟨j, hj⟩ := List.mem_iff_getElem?.1 hf
 exact h2 hb j f (Nat.zero_le _) hj
/-- What a field makes of the pairs. -/
def addQ (L : List S65) (f : S48) : List S65 := (if f.f0 = 1 then L.filter (fun p => decide (p.f0.toList ≠ f.f2.toList)) else L) ++ [⟨f.f2, textS f.f3 f.f4 f.f5, false⟩]
theorem addQ_len (L : List S65) (f : S48) : (addQ L f).length ≤ L.length + 1 := by
 unfold addQ
 have := List.length_filter_le (fun p : S65 => decide (p.f0.toList ≠ f.f2.toList)) L
 rw [List.length_append, List.length_singleton]
 split <;> omega
theorem rd65_at (xs : List S65) (k : Nat) (h : k < xs.length) : xs.drop k = rd_T65 xs (k : Int) :: xs.drop (k + 1) := by
 rw [List.drop_eq_getElem_cons h]
 simp [rd_T65, List.getElem?_eq_getElem h]
theorem qp_l1 (fs : List S48) (i : Nat) (f : S48) (ht : FitT f) (hl : fs.length ≤ 2147483647) (hi : i < fs.length) (L : List S65) (hL : L.length ≤ 1000000) (R : List S65) : ∀ (n j : Nat), n = L.length - j → j ≤ L.length → ∀ acc : List S65, acc.length ≤ j →
 (∃ F, spec_QueryPairs.l0 F ((acc ++ (L.drop j).filter (fun p => decide (p.f0.toList ≠ f.f2.toList))) ++ [⟨f.f2, textS f.f3 f.f4 f.f5, false⟩]) fs (fs.length : Int) ((i + 1 : Nat) : Int) = some R) →
 ∃ F, spec_QueryPairs.l1 F acc fs (fs.length : Int) (i : Int) L (L.length : Int) (j : Int) f.f0 f.f1 f.f2 f.f3 f.f4 f.f5 = some R := by
 intro n
 induction n with
 | zero =>
   intro j hn hj acc ha hF
   obtain rfl : j = L.length := by omega
   obtain ⟨F, hF⟩ := hF
   rw [List.drop_length, List.filter_nil, List.append_nil] at hF
   refine ⟨F + 1, ?_⟩
   rw [spec_QueryPairs.l1, if_neg (by omega), text_f F f ht, Option.bind_some, if_pos (by omega), wr1' i fs.length hi (by omega)]
   exact hF
 | succ n ih =>
   intro j hn hj acc ha hF
   have hlt : j < L.length := by omega
   rw [rd65_at L j hlt] at hF
   by_cases c : (rd_T65 L (j : Int)).f0.toList = f.f2.toList
   ·rw [List.filter_cons_of_neg (by simpa using c)] at hF
    obtain ⟨F, hF⟩ := ih (j + 1) (by omega) (by omega) acc (by omega) hF
    refine ⟨F + 1, ?_⟩
    rw [spec_QueryPairs.l1, if_pos (by omega), if_pos (by omega), if_pos (by omega), if_pos c, wr1' j L.length hlt (by omega)]
    exact hF
   ·rw [List.filter_cons_of_pos (by simpa using c)] at hF
    obtain ⟨F, hF⟩ := ih (j + 1) (by omega) (by omega) (acc ++ [rd_T65 L (j : Int)]) (by simp; omega) (by simpa using hF)
    refine ⟨F + 1, ?_⟩
    rw [spec_QueryPairs.l1, if_pos (by omega), if_pos (by omega), if_pos (by omega), if_neg c, if_pos (by omega), wr1' j L.length hlt (by omega)]
    exact hF
theorem qp_l0 (fs : List S48) (hl : fs.length ≤ 100) (ht : ∀ f ∈ fs, FitT f) : ∀ (n k : Nat), n = fs.length - k → k ≤ fs.length → ∀ L : List S65, L.length ≤ k → ∃ F, spec_QueryPairs.l0 F L fs (fs.length : Int) (k : Int) = some ((fs.drop k).foldl addQ L) := by
 intro n
 induction n with
 | zero =>
   intro k hn hk L hL
   obtain rfl : k = fs.length := by omega
   exact ⟨1, by rw [spec_QueryPairs.l0, if_neg (by omega), List.drop_length]; rfl⟩
 | succ n ih =>
   intro k hn hk L hL
   have hlt : k < fs.length := by omega
   have hat := rd48_at fs k hlt
   have htf := ht _ (List.mem_of_getElem? hat)
   have hd : fs.drop k = rd_T48 fs (k : Int) :: fs.drop (k + 1) := by
    rw [List.drop_eq_getElem_cons hlt]
    rw [List.getElem?_eq_getElem hlt] at hat
    rw [Option.some.inj hat]
   rw [hd, List.foldl_cons]
   obtain ⟨F, hF⟩ := ih (k + 1) (by omega) (by omega) (addQ L (rd_T48 fs (k : Int))) (by have := addQ_len L (rd_T48 fs (k : Int)); omega)
   by_cases c : (rd_T48 fs (k : Int)).f0 = 1
   ·obtain ⟨G, hG⟩ := qp_l1 fs k (rd_T48 fs (k : Int)) htf (by omega) hlt L (by omega) ((fs.drop (k + 1)).foldl addQ (addQ L (rd_T48 fs (k : Int)))) L.length 0 (by omega) (by omega) [] (by simp) ⟨F, by
     rw [List.nil_append, List.drop_zero, ← hF]
     unfold addQ
     rw [if_pos c]⟩
    refine ⟨G + 1, ?_⟩
    rw [spec_QueryPairs.l0, if_pos (by omega), if_pos (by omega), if_pos (by omega), if_pos c]
    exact hG
   ·refine ⟨F + 1, ?_⟩
    rw [spec_QueryPairs.l0, if_pos (by omega), if_pos (by omega), if_pos (by omega), if_neg c, text_f F _ htf, Option.bind_some, if_pos (by omega), wr1' k fs.length hlt (by omega), ← hF]
    unfold addQ
    rw [if_neg c]
theorem qp_eq (fs : List S48) (hl : fs.length ≤ 100) (ht : ∀ f ∈ fs, FitT f) : ∃ F, spec_QueryPairs.f F [] fs = some (fs.foldl addQ []) := by
 obtain ⟨F, h⟩ := qp_l0 fs hl ht fs.length 0 (by omega) (by omega) [] (by simp)
 exact ⟨F, by unfold spec_QueryPairs.f; rw [Option.bind_some, if_pos (by simp)]; simpa using h⟩
theorem fold_len (fs : List S48) : ∀ L : List S65, (fs.foldl addQ L).length ≤ L.length + fs.length := by
 induction fs with
 | nil => intro L; simp
 | cons f fs ih =>
   intro L
   rw [List.foldl_cons]
   have h1 := ih (addQ L f)
   have h2 := addQ_len L f
   simp only [List.length_cons]
   omega
/-- A name is among the pairs iff a field has it (or it was there). -/
theorem fold_has (q : ByteArray) (fs : List S48) : ∀ L : List S65, (∃ p ∈ fs.foldl addQ L, p.f0.toList = q.toList) ↔ (∃ p ∈ L, p.f0.toList = q.toList) ∨ ∃ f ∈ fs, f.f2.toList = q.toList := by
 induction fs with
 | nil => intro L; simp
 | cons f fs ih =>
   intro L
   rw [List.foldl_cons, ih]
   have h : (∃ p ∈ addQ L f, p.f0.toList = q.toList) ↔ (∃ p ∈ L, p.f0.toList = q.toList) ∨ f.f2.toList = q.toList := by
    unfold addQ
    constructor
    ·rintro ⟨p, hp, hq⟩
     rcases List.mem_append.1 hp with hp | hp
     ·refine .inl ⟨p, ?_, hq⟩
      split at hp
      ·exact (List.mem_filter.1 hp).1
      ·exact hp
     ·obtain rfl := List.mem_singleton.1 hp
      exact .inr hq
    ·rintro (⟨p, hp, hq⟩ | hq)
     ·by_cases hf : f.f2.toList = q.toList
      ·exact ⟨_, List.mem_append.2 (.inr (List.mem_singleton.2 rfl)), hf⟩
      ·refine ⟨p, List.mem_append.2 (.inl ?_), hq⟩
       split
       ·exact List.mem_filter.2 ⟨hp, by simpa using fun e => hf (e.symm.trans hq)⟩
       ·exact hp
     ·exact ⟨_, List.mem_append.2 (.inr (List.mem_singleton.2 rfl)), hq⟩
   rw [h]
   simp only [List.mem_cons, exists_eq_or_imp]
   exact or_assoc
theorem hn_l0' (L : List S65) (q : ByteArray) (hl : L.length ≤ 1000000) : ∀ (n k : Nat), n = L.length - k → k ≤ L.length → ∃ F b, spec_HasName.l0 F q L (L.length : Int) (k : Int) = some b ∧ (b = true ↔ ∃ p ∈ L.drop k, p.f0.toList = q.toList) := by
 intro n
 induction n with
 | zero =>
   intro k hn hk
   obtain rfl : k = L.length := by omega
   exact ⟨1, false, by rw [spec_HasName.l0, if_neg (by omega)], by rw [List.drop_length]; simp⟩
 | succ n ih =>
   intro k hn hk
   have hlt : k < L.length := by omega
   rw [rd65_at L k hlt]
   by_cases c : (rd_T65 L (k : Int)).f0.toList = q.toList
   ·exact ⟨1, true, by rw [spec_HasName.l0, if_pos (by omega), if_pos (by omega), if_pos (by omega), if_pos c], by simp [c]⟩
   ·obtain ⟨F, b, h1, h2⟩ := ih (k + 1) (by omega) (by omega)
    refine ⟨F + 1, b, ?_, ?_⟩
    ·rw [spec_HasName.l0, if_pos (by omega), if_pos (by omega), if_pos (by omega), if_neg c, wr1' k L.length hlt (by omega)]
     exact h1
    ·rw [h2]
     simp only [List.mem_cons, exists_eq_or_imp]
     exact ⟨fun h => .inr h, fun h => h.resolve_left c⟩
theorem hasName_eq (L : List S65) (q : ByteArray) (hl : L.length ≤ 1000000) : ∃ F b, spec_HasName.f F L q = some b ∧ (b = true ↔ ∃ p ∈ L, p.f0.toList = q.toList) := by
 obtain ⟨F, b, h1, h2⟩ := hn_l0' L q hl L.length 0 (by omega) (by omega)
 exact ⟨F, b, h1, by simpa using h2⟩
theorem rd73_drop (xs : List S73) (k : Nat) (h : k < xs.length) : xs.drop k = rd_T73 xs (k : Int) :: xs.drop (k + 1) := by
 rw [List.drop_eq_getElem_cons h]
 simp [rd_T73, List.getElem?_eq_getElem h]
theorem hh_l0 (L : List S73) (q : ByteArray) (hl : L.length ≤ 1000000) : ∀ (n k : Nat), n = L.length - k → k ≤ L.length → ∃ F b, spec_HasHeader.l0 F q L (L.length : Int) (k : Int) = some b ∧ (b = true ↔ ∃ p ∈ L.drop k, p.f0.toList = q.toList) := by
 intro n
 induction n with
 | zero =>
   intro k hn hk
   obtain rfl : k = L.length := by omega
   exact ⟨1, false, by rw [spec_HasHeader.l0, if_neg (by omega)], by rw [List.drop_length]; simp⟩
 | succ n ih =>
   intro k hn hk
   have hlt : k < L.length := by omega
   rw [rd73_drop L k hlt]
   by_cases c : (rd_T73 L (k : Int)).f0.toList = q.toList
   ·exact ⟨1, true, by rw [spec_HasHeader.l0, if_pos (by omega), if_pos (by omega), if_pos (by omega), if_pos c], by simp [c]⟩
   ·obtain ⟨F, b, h1, h2⟩ := ih (k + 1) (by omega) (by omega)
    refine ⟨F + 1, b, ?_, ?_⟩
    ·rw [spec_HasHeader.l0, if_pos (by omega), if_pos (by omega), if_pos (by omega), if_neg c, wr1' k L.length hlt (by omega)]
     exact h1
    ·rw [h2]
     simp only [List.mem_cons, exists_eq_or_imp]
     exact ⟨fun h => .inr h, fun h => h.resolve_left c⟩
theorem hasHeader_eq (L : List S73) (q : ByteArray) (hl : L.length ≤ 1000000) : ∃ F b, spec_HasHeader.f F L q = some b ∧ (b = true ↔ ∃ p ∈ L, p.f0.toList = q.toList) := by
 obtain ⟨F, b, h1, h2⟩ := hh_l0 L q hl L.length 0 (by omega) (by omega)
 exact ⟨F, b, h1, by simpa using h2⟩
end HH
end Go.Proofs.YtclmjmfcggkpaaaGreatDoor
