import Derived.Test.YtclmjmfcggkpaaaGreatDoorU4
set_option linter.unusedVariables false
set_option linter.unusedSimpArgs false
namespace Go.Proofs.YtclmjmfcggkpaaaGreatDoor
open Go.RowKit Go.Proofs.YtclmjmfcggkpaaaGreatDoorW.PrintWords Go.Proofs.YtclmjmfcggkpaaaGreatDoorW.PrintLast Go.Proofs.YtclmjmfcggkpaaaGreatDoorW.PrintMore
open PX
namespace HH
/-! ### Headers, plainly: lists by keys -/
def kLt (a b : ByteArray) : Bool := Op.bytesLess a.toList b.toList
theorem toList_inj {a b : ByteArray} (h : a.toList = b.toList) : a = b := by
 rw [ByteArray.toList_eq, ByteArray.toList_eq] at h
 apply ByteArray.ext
 exact Array.ext' h
theorem bytesLess_eq : ∀ (x y : List UInt8), Op.bytesLess x y = decide (x < y)
 | [], [] => by simp [Op.bytesLess]
 | _ :: _, [] => by simp [Op.bytesLess]
 | [], _ :: _ => by simp [Op.bytesLess]
 | a :: x, b :: y => by
   rw [Op.bytesLess, bytesLess_eq x y]
   simp only [List.cons_lt_cons_iff]
   by_cases h1 : a < b <;> by_cases h2 : a = b <;> by_cases h3 : x < y <;> simp [h1, h2, h3]
theorem kLt_iff (a b : ByteArray) : kLt a b = true ↔ a.toList < b.toList := by unfold kLt; rw [bytesLess_eq]; simp
theorem kLt_irrefl (a : ByteArray) : kLt a a = false := by
 rw [Bool.eq_false_iff, Ne, kLt_iff]
 exact List.lt_irrefl _
theorem kLt_trans {a b c : ByteArray} (h1 : kLt a b = true) (h2 : kLt b c = true) : kLt a c = true := by
 rw [kLt_iff] at h1 h2 ⊢
 exact List.lt_trans h1 h2
theorem kLt_tri {a b : ByteArray} (h : a ≠ b) : kLt a b = true ∨ kLt b a = true := by
 rw [kLt_iff, kLt_iff]
 rcases Classical.em (a.toList < b.toList) with h1 | h1
 ·exact .inl h1
 ·rcases Classical.em (b.toList < a.toList) with h2 | h2
  ·exact .inr h2
  ·exact absurd (toList_inj (List.le_antisymm (List.not_lt.1 h2) (List.not_lt.1 h1))) h
theorem kLt_ne {a b : ByteArray} (h : kLt a b = true) : a ≠ b := by
 rintro rfl
 rw [kLt_irrefl] at h
 cases h
def srt (L : List S73) : Prop := L.Pairwise (fun a b => kLt a.f0 b.f0 = true)
def lk (L : List S73) (k : ByteArray) : Option (List ByteArray) := (L.find? (fun h => decide (h.f0 = k))).map (·.f1)
theorem lk_nil (k : ByteArray) : lk [] k = none := rfl
theorem lk_cons (a : S73) (L : List S73) (k : ByteArray) : lk (a :: L) k = if a.f0 = k then some a.f1 else lk L k := by
 unfold lk
 rw [List.find?_cons]
 by_cases h : a.f0 = k
 ·simp [h]
 ·simp [h]
theorem lk_app (L M : List S73) (k : ByteArray) : lk (L ++ M) k = (lk L k).or (lk M k) := by
 induction L with
 | nil => simp [lk_nil]
 | cons a L ih =>
   rw [List.cons_append, lk_cons, lk_cons, ih]
   split <;> simp
theorem lk_mem {L : List S73} {k : ByteArray} {v : List ByteArray} (h : lk L k = some v) : ∃ a ∈ L, a.f0 = k ∧ a.f1 = v := by
 unfold lk at h
 obtain ⟨a, ha, e⟩ := Option.map_eq_some_iff.1 h
 have := List.find?_some ha
 exact ⟨a, List.mem_of_find?_eq_some ha, by simpa using this, e⟩
theorem lk_not {L : List S73} {k : ByteArray} (h : ∀ a ∈ L, a.f0 ≠ k) : lk L k = none := by
 unfold lk
 rw [List.find?_eq_none.2 (fun a ha => by simpa using h a ha)]
 rfl
theorem srt_cons {a : S73} {L : List S73} : srt (a :: L) ↔ (∀ b ∈ L, kLt a.f0 b.f0 = true) ∧ srt L := by unfold srt; exact List.pairwise_cons
/-! #### A place in a rising list -/
/-- How many keys are below k. -/
def below (L : List S73) (k : ByteArray) : Nat := (L.takeWhile (fun a => kLt a.f0 k)).length
theorem below_cons (a : S73) (L : List S73) (k : ByteArray) : below (a :: L) k = if kLt a.f0 k = true then below L k + 1 else 0 := by
 unfold below
 rw [List.takeWhile_cons]
 split <;> rfl
/-- A new key goes in at its place. -/
def insH (L : List S73) (x : S73) : List S73 := L.take (below L x.f0) ++ x :: L.drop (below L x.f0)
theorem insH_cons (a : S73) (L : List S73) (x : S73) : insH (a :: L) x = if kLt a.f0 x.f0 = true then a :: insH L x else x :: a :: L := by
 unfold insH
 rw [below_cons]
 split <;> simp
theorem insH_mem {L : List S73} {x y : S73} : y ∈ insH L x ↔ y = x ∨ y ∈ L := by
 induction L with
 | nil => simp [insH, below]
 | cons a L ih =>
   rw [insH_cons]
   split
   ·rw [List.mem_cons, ih, List.mem_cons]
    constructor
    ·rintro (h | h | h)
     ·exact .inr (.inl h)
     ·exact .inl h
     ·exact .inr (.inr h)
    ·rintro (h | h | h)
     ·exact .inr (.inl h)
     ·exact .inl h
     ·exact .inr (.inr h)
   ·rw [List.mem_cons]
theorem insH_srt {L : List S73} {x : S73} (h : srt L) (hn : ∀ a ∈ L, a.f0 ≠ x.f0) : srt (insH L x) := by
 induction L with
 | nil => simp [insH, below, srt]
 | cons a L ih =>
   obtain ⟨ha, hL⟩ := srt_cons.1 h
   rw [insH_cons]
   split
   ·rename_i hlt
    refine srt_cons.2 ⟨fun b hb => ?_, ih hL (fun b hb => hn b (by simp [hb]))⟩
    rcases insH_mem.1 hb with rfl | hb
    ·exact hlt
    ·exact ha b hb
   ·rename_i hlt
    have hxa : kLt x.f0 a.f0 = true := by
     rcases kLt_tri (hn a (by simp)) with h1 | h1
     ·exact absurd h1 hlt
     ·exact h1
    refine srt_cons.2 ⟨fun b hb => ?_, h⟩
    rcases List.mem_cons.1 hb with rfl | hb
    ·exact hxa
    ·exact kLt_trans hxa (ha b hb)
theorem insH_lk {L : List S73} {x : S73} (hn : ∀ a ∈ L, a.f0 ≠ x.f0) (k : ByteArray) : lk (insH L x) k = if x.f0 = k then some x.f1 else lk L k := by
 induction L with
 | nil => simp [insH, below, lk_cons, lk_nil]
 | cons a L ih =>
   have hax := hn a (by simp)
   rw [insH_cons]
   split
   ·rw [lk_cons, ih (fun b hb => hn b (by simp [hb])), lk_cons]
    by_cases h1 : a.f0 = k
    ·rw [if_pos h1, if_pos h1, if_neg (by rintro h2; exact hax (h1.trans h2.symm))]
    ·rw [if_neg h1, if_neg h1]
   ·rw [lk_cons]
/-- A key that is there: its values are set. -/
theorem set_srt {L : List S73} {i : Nat} {k : ByteArray} {v : List ByteArray} (h : srt L) {a : S73} (ha : L[i]? = some a) (hk : a.f0 = k) : srt (L.set i ⟨k, v⟩) := by
 induction L generalizing i with
 | nil => simp at ha
 | cons b L ih =>
   obtain ⟨hb, hL⟩ := srt_cons.1 h
   cases i with
   | zero =>
     obtain rfl := Option.some.inj ha
     subst hk
     exact srt_cons.2 ⟨hb, hL⟩
   | succ i =>
     rw [List.getElem?_cons_succ] at ha
     rw [List.set_cons_succ]
     refine srt_cons.2 ⟨fun c hc => ?_, ih hL ha⟩
     rcases List.mem_or_eq_of_mem_set hc with hc | rfl
     ·exact hb c hc
     ·show kLt b.f0 k = true
      rw [← hk]
      exact hb a (List.mem_of_getElem? ha)
theorem set_lk {L : List S73} {i : Nat} {k : ByteArray} {v : List ByteArray} (h : srt L) {a : S73} (ha : L[i]? = some a) (hk : a.f0 = k) (k' : ByteArray) : lk (L.set i ⟨k, v⟩) k' = if k = k' then some v else lk L k' := by
 induction L generalizing i with
 | nil => simp at ha
 | cons b L ih =>
   obtain ⟨hb, hL⟩ := srt_cons.1 h
   cases i with
   | zero =>
     obtain rfl := Option.some.inj ha
     subst hk
     rw [List.set_cons_zero, lk_cons, lk_cons]
     by_cases h1 : b.f0 = k'
     ·rw [if_pos h1, if_pos h1]
     ·rw [if_neg h1, if_neg h1, if_neg h1]
   | succ i =>
     rw [List.getElem?_cons_succ] at ha
     rw [List.set_cons_succ, lk_cons, ih hL ha, lk_cons]
     have := kLt_ne (hb a (List.mem_of_getElem? ha))
     by_cases h1 : b.f0 = k'
     ·rw [if_pos h1, if_pos h1, if_neg (by rintro h2; exact this (h1.trans (h2.symm.trans hk.symm)))]
     ·rw [if_neg h1, if_neg h1]
/-- What spec's put does. -/
def putH (L : List S73) (k : ByteArray) (vs : List ByteArray) (add : Bool) : List S73 :=
 match L[below L k]? with
 | some a => if a.f0 = k then L.set (below L k) ⟨k, (if add then a.f1 else []) ++ vs⟩ else insH L ⟨k, vs⟩
 | none => insH L ⟨k, vs⟩
theorem not_in {L : List S73} {k : ByteArray} (h : srt L) (hn : ∀ a, L[below L k]? = some a → a.f0 ≠ k) : ∀ a ∈ L, a.f0 ≠ k := by
 induction L with
 | nil => intro a ha; cases ha
 | cons b L ih =>
   obtain ⟨hb, hL⟩ := srt_cons.1 h
   rw [below_cons] at hn
   intro a ha
   split at hn
   ·rename_i hlt
    rcases List.mem_cons.1 ha with rfl | ha
    ·exact kLt_ne hlt
    ·exact ih hL (fun c hc => hn c (by rw [List.getElem?_cons_succ]; exact hc)) a ha
   ·rename_i hlt
    have hbk := hn b rfl
    rcases List.mem_cons.1 ha with rfl | ha
    ·exact hbk
    ·rcases kLt_tri hbk with h1 | h1
     ·exact absurd h1 hlt
     ·exact Ne.symm (kLt_ne (kLt_trans h1 (hb a ha)))
theorem lk_at {L : List S73} {i : Nat} {a : S73} (h : srt L) (ha : L[i]? = some a) : lk L a.f0 = some a.f1 := by
 induction L generalizing i with
 | nil => simp at ha
 | cons b L ih =>
   obtain ⟨hb, hL⟩ := srt_cons.1 h
   cases i with
   | zero => obtain rfl := Option.some.inj ha; rw [lk_cons, if_pos rfl]
   | succ i =>
     rw [List.getElem?_cons_succ] at ha
     rw [lk_cons, if_neg (kLt_ne (hb a (List.mem_of_getElem? ha)))]
     exact ih hL ha
theorem putH_srt {L : List S73} {k : ByteArray} {vs : List ByteArray} {add : Bool} (h : srt L) : srt (putH L k vs add) := by
 unfold putH
 split
 ·rename_i a ha
  split
  ·rename_i hk; exact set_srt h ha hk
  ·rename_i hk; exact insH_srt h (not_in h (fun b hb => by rw [ha] at hb; obtain rfl := Option.some.inj hb; exact hk))
 ·rename_i ha
  exact insH_srt h (not_in h (fun b hb => by rw [ha] at hb; cases hb))
theorem putH_lk {L : List S73} {k : ByteArray} {vs : List ByteArray} {add : Bool} (h : srt L) (k' : ByteArray) :
 lk (putH L k vs add) k' = if k = k' then some ((if add then (lk L k).getD [] else []) ++ vs) else lk L k' := by
 unfold putH
 split
 ·rename_i a ha
  split
  ·rename_i hk
   rw [set_lk h ha hk]
   have := lk_at h ha
   rw [hk] at this
   rw [this]
   simp
  ·rename_i hk
   have hn := not_in h (fun b hb => by rw [ha] at hb; obtain rfl := Option.some.inj hb; exact hk)
   rw [insH_lk hn, lk_not hn]
   simp
 ·rename_i ha
  have hn := not_in h (fun b hb => by rw [ha] at hb; cases hb)
  rw [insH_lk hn, lk_not hn]
  simp
end HH
end Go.Proofs.YtclmjmfcggkpaaaGreatDoor
