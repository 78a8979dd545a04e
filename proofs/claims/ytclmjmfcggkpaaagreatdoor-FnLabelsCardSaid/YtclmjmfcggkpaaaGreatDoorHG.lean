import Derived.Test.YtclmjmfcggkpaaaGreatDoorHF
import Derived.Test.YtclmjmfcggkpaaaGreatDoorHK
import Derived.Test.YtclmjmfcggkpaaaGreatDoorHSpec
import Derived.Test.YtclmjmfcggkpaaaGreatDoorPF
import Derived.Test.YtclmjmfcggkpaaaGreatDoorPXx182
import Derived.Test.YtclmjmfcggkpaaaGreatDoorHBd
import Derived.Test.YtclmjmfcggkpaaaGreatDoorPE
set_option linter.unusedVariables false
set_option linter.unusedSimpArgs false
namespace Go.Proofs.YtclmjmfcggkpaaaGreatDoor
open Go.RowKit Go.Proofs.YtclmjmfcggkpaaaGreatDoorW.PrintWords Go.Proofs.YtclmjmfcggkpaaaGreatDoorW.PrintLast Go.Proofs.YtclmjmfcggkpaaaGreatDoorW.PrintMore
open PX
namespace H
/-! ### The parts of a path that spec.Labels takes -/
def toPart (p : ByteArray) : Part := if (labelB p).2.2 then .lab (bytesOf (labelB p).1) (labelB p).2.1 else .lit (bytesOf p)
def pieces (s : ByteArray) : List ByteArray := partsB 47 (s.extract 1 s.size)
def Qof (s : ByteArray) : List Part := (pieces s).map toPart
theorem labelB_lab {p : ByteArray} (h : (labelB p).2.2 = true) :
    wordL (bytesOf (labelB p).1) = true ∧ bytesOf p = 123 :: (bytesOf (labelB p).1 ++ tail (labelB p).2.1) ∧ (labelB p).1.size ≤ p.size := by
  unfold labelB at h ⊢
  split at h
  · cases h
  · rename_i hc
    rw [if_neg hc]
    have h3 : 3 ≤ p.size := by omega
    have h1 : bt p 0 = 123 := by
      have h' := fun h => hc (.inr (.inl h))
      exact Decidable.not_not.1 h'
    have h2 : bt p ((p.size : Int) - 1) = 125 := by
      have h' := fun h => hc (.inr (.inr h))
      exact Decidable.not_not.1 h'
    have hp : bytesOf p = 123 :: (bytesOf (p.extract 1 (p.size - 1)) ++ [125]) := by
      have e0 := drop_bt p 0 (by omega)
      rw [List.drop_zero] at e0
      rw [bytes_ext, e0]
      have hcast : bt p ((0 : Nat) : Int) = 123 := h1
      rw [hcast]
      simp only [List.drop_succ_cons, List.drop_zero]
      congr 1
      have hl : ((bytesOf p).drop (0 + 1)).length = p.size - 1 := by simp [bytesOf_length]
      have hd := drop_bt p (p.size - 1) (by omega)
      rw [show (bytesOf p).drop (p.size - 1 + 1) = [] from List.drop_of_length_le (by rw [bytesOf_length]; omega)] at hd
      have e125 : bt p (((p.size - 1 : Nat)) : Int) = 125 := by rw [← h2]; congr 1; omega
      rw [e125] at hd
      have := List.take_append_drop (p.size - 1 - 1) ((bytesOf p).drop (0 + 1))
      rw [List.drop_drop, show 0 + 1 + (p.size - 1 - 1) = p.size - 1 from by omega, hd] at this
      exact this.symm
    generalize hn : p.extract 1 (p.size - 1) = n at *
    have hns : n.size = p.size - 2 := by
      have := congrArg List.length hp
      simp [bytesOf_length] at this
      omega
    unfold nameB at h ⊢
    split at h
    · rename_i h43
      rw [if_pos h43]
      refine ⟨h, ?_, by simp; omega⟩
      simp only
      rw [hp]
      congr 1
      have hd := drop_bt n (n.size - 1) (by omega)
      rw [show (bytesOf n).drop (n.size - 1 + 1) = [] from List.drop_of_length_le (by rw [bytesOf_length]; omega)] at hd
      have e43 : bt n (((n.size - 1 : Nat)) : Int) = 43 := by rw [← h43]; congr 1; omega
      rw [e43] at hd
      have := List.take_append_drop (n.size - 1) (bytesOf n)
      rw [hd] at this
      rw [bytes_ext, List.drop_zero, Nat.sub_zero]
      generalize List.take (n.size - 1) (bytesOf n) = q at *
      rw [← this]
      simp [tail]
    · rename_i h43
      rw [if_neg h43]
      refine ⟨h, ?_, by simp; omega⟩
      rw [hp]
      simp [tail]
theorem rp_none (p : ByteArray) (esc : Bool) : rp esc (fun _ => none) (toPart p) = 47 :: bytesOf p := by
  unfold toPart
  split
  · rename_i h
    rw [(labelB_lab h).2.1]
    simp [rp]
  · rfl
theorem names_cons (q : Part) (Q : List Part) : names (q :: Q) = names [q] ++ names Q := names_app [q] Q
theorem labelsGo_ok : ∀ (ps acc l : List ByteArray), labelsGo acc ps = some l →
    l.map bytesOf = acc.map bytesOf ++ names (ps.map toPart) ∧ (acc.Nodup → l.Nodup) ∧ ∀ p ∈ ps, (labelB p).2.2 = false → litL (bytesOf p) = true := by
  intro ps
  induction ps with
  | nil =>
    intro acc l h
    simp only [labelsGo, Option.some.injEq] at h
    subst h
    exact ⟨by simp [names], id, fun p hp => by cases hp⟩
  | cons p ps ih =>
    intro acc l h
    simp only [labelsGo] at h
    split at h
    · rename_i hl
      split at h
      · cases h
      · rename_i hs
        obtain ⟨h1, h2, h3⟩ := ih _ _ h
        refine ⟨?_, fun hn => h2 ?_, ?_⟩
        · rw [h1, List.map_cons, names_cons]
          simp [toPart, hl, names]
        · rw [List.nodup_append]
          refine ⟨hn, by simp, ?_⟩
          intro a ha b hb e
          rw [List.mem_singleton] at hb
          subst hb; subst e
          exact hs (hasS_iff.2 ha)
        · intro q hq hb
          rcases List.mem_cons.1 hq with rfl | hq
          · rw [hl] at hb; cases hb
          · exact h3 q hq hb
    · rename_i hl
      split at h
      · rename_i hlit
        obtain ⟨h1, h2, h3⟩ := ih _ _ h
        refine ⟨?_, h2, ?_⟩
        · rw [h1, List.map_cons, names_cons]
          have : toPart p = .lit (bytesOf p) := by unfold toPart; rw [if_neg hl]
          rw [this]
          simp [names]
        · intro q hq hb
          rcases List.mem_cons.1 hq with rfl | hq
          · exact hlit
          · exact h3 q hq hb
      · cases h
theorem bytes_head (s : ByteArray) (h : s.size ≠ 0) : bytesOf s = bt s 0 :: bytesOf (s.extract 1 s.size) := by
  have e0 := drop_bt s 0 (by omega)
  rw [List.drop_zero] at e0
  rw [bytes_ext, List.take_of_length_le (by simp [bytesOf_length])]
  exact e0
/-- What spec.Labels says of a path. -/
structure Shape (s : ByteArray) (l : List ByteArray) : Prop where
  size : s.size ≤ 1000
  eq : ∀ esc, path esc (fun _ => none) (Qof s) = bytesOf s
  nms : l.map bytesOf = names (Qof s)
  nodup : l.Nodup
  word : ∀ n gr, Part.lab n gr ∈ Qof s → wordL n = true ∧ n.length ≤ 1000
  lit : ∀ b, Part.lit b ∈ Qof s → litL b = true ∧ b.length ≤ 1000
  few : (Qof s).length ≤ 1001
  ne : Qof s ≠ []
theorem shape {s : ByteArray} {l : List ByteArray} (h : labelsB s = some l) : Shape s l := by
  unfold labelsB at h
  split at h
  · cases h
  · rename_i hc
    have h47 : bt s 0 = 47 := by
      have h' := fun h => hc (.inr (.inl h))
      exact Decidable.not_not.1 h'
    have h0 : s.size ≠ 0 := fun h => hc (.inl h)
    have hz : s.size ≤ 1000 := by omega
    obtain ⟨h1, h2, h3⟩ := labelsGo_ok _ _ _ h
    have hsz : ∀ p ∈ pieces s, p.size ≤ 1000 := fun p hp => by
      have := parts_size hp
      simp at this
      omega
    refine ⟨hz, fun esc => ?_, by simpa [Qof, pieces] using h1, h2 List.nodup_nil, ?_, ?_, ?_, ?_⟩
    · have e : path esc (fun _ => none) (Qof s) = (pieces s).flatMap (fun p => 47 :: bytesOf p) := by
        unfold path Qof
        rw [List.flatMap_map]
        congr 1
        funext p
        exact rp_none p esc
      rw [e, bytes_head s h0, h47, ← splitL_join 47 (bytesOf (s.extract 1 s.size))]
      unfold pieces partsB
      rw [List.flatMap_map]
      have : ∀ (ls : List (List Int)), (∀ p ∈ ls, ∀ x ∈ p, 0 ≤ x ∧ x ≤ 255) → List.flatMap (fun a => 47 :: bytesOf (strOfNums a)) ls = List.flatMap (fun x => 47 :: x) ls := by
        intro ls
        induction ls with
        | nil => intro _; rfl
        | cons a ls ih =>
          intro hh
          simp only [List.flatMap_cons]
          rw [bytesOf_strOf a (hh a (by simp)), ih (fun p hp => hh p (by simp [hp]))]
      exact this _ (fun p hp x hx => bytesOf_range _ x (splitL_mem hp x hx).2)
    · intro n gr hm
      obtain ⟨p, hp, e⟩ := List.mem_map.1 hm
      unfold toPart at e
      split at e
      · rename_i hl
        injection e with e1 e2
        subst e1
        obtain ⟨a, b, c⟩ := labelB_lab hl
        refine ⟨a, ?_⟩
        rw [bytesOf_length]
        have := hsz p hp
        omega
      · cases e
    · intro b hm
      obtain ⟨p, hp, e⟩ := List.mem_map.1 hm
      unfold toPart at e
      split at e
      · cases e
      · rename_i hl
        injection e with e1
        subst e1
        refine ⟨h3 p hp (by simpa using hl), ?_⟩
        rw [bytesOf_length]
        exact hsz p hp
    · have := parts_len 47 (s.extract 1 s.size)
      simp only [Qof, List.length_map, pieces]
      simp at this
      omega
    · unfold Qof pieces partsB
      intro e
      simp only [List.map_eq_nil_iff] at e
      exact splitL_ne _ _ e
/-! ### The values -/
def sg (l : List S65) : List Int → Option (List Int) := fun n => (l.find? (fun t => decide (bytesOf t.f0 = n))).map (fun t => bytesOf t.f1)
theorem sg_nil : sg [] = fun _ => none := rfl
theorem sg_none {l : List S65} {n : List Int} (h : n ∉ l.map (fun t => bytesOf t.f0)) : sg l n = none := by
  unfold sg
  rw [List.find?_eq_none.2 (fun t ht hd => h (List.mem_map.2 ⟨t, ht, by simpa using hd⟩))]
  rfl
theorem sg_snoc (l : List S65) (t : S65) (h : bytesOf t.f0 ∉ l.map (fun t => bytesOf t.f0)) : sg (l ++ [t]) = upd (sg l) (bytesOf t.f0) (bytesOf t.f1) := by
  funext n
  unfold upd
  split
  · rename_i e
    subst e
    have h0 := sg_none h
    unfold sg at h0 ⊢
    rw [List.find?_append]
    have : l.find? (fun u => decide (bytesOf u.f0 = bytesOf t.f0)) = none := by simpa using h0
    rw [this]
    simp
  · rename_i e
    unfold sg
    rw [List.find?_append]
    have : [t].find? (fun u => decide (bytesOf u.f0 = n)) = none := by simp [Ne.symm e]
    rw [this]
    simp
theorem sg_some {l : List S65} {n v : List Int} (h : sg l n = some v) : ∃ t ∈ l, bytesOf t.f0 = n ∧ bytesOf t.f1 = v := by
  unfold sg at h
  obtain ⟨t, ht, e⟩ := Option.map_eq_some_iff.1 h
  have h1 := List.find?_some ht
  exact ⟨t, List.mem_of_find?_eq_some ht, by simpa using h1, e⟩
/-! ### What LabelTexts says -/
def mkT (f : S48) : S65 := ⟨f.f2, fText f, false⟩
theorem ltGo_ok (names : List ByteArray) : ∀ (fs : List S48) (out : List S65) (keys : List ByteArray) (o : List S65) (k : List ByteArray), ltGo names out keys fs = some (o, k) →
    o = out ++ fs.map mkT ∧ k = keys ++ fs.map (·.f2) ∧ ∀ f ∈ fs, fieldOk names f = true := by
  intro fs
  induction fs with
  | nil =>
    intro out keys o k h
    simp only [ltGo, Option.some.injEq, Prod.mk.injEq] at h
    obtain ⟨rfl, rfl⟩ := h
    exact ⟨by simp, by simp, fun f hf => by cases hf⟩
  | cons f fs ih =>
    intro out keys o k h
    simp only [ltGo] at h
    split at h
    · rename_i hf
      obtain ⟨h1, h2, h3⟩ := ih _ _ _ _ h
      refine ⟨by rw [h1]; simp [mkT], by rw [h2]; simp, ?_⟩
      intro g hg
      rcases List.mem_cons.1 hg with rfl | hg
      · exact hf
      · exact h3 g hg
    · cases h
structure Texts (s : ByteArray) (fs : List S48) (l : List ByteArray) (ts : List S65) : Prop where
  shape : Shape s l
  ts : ts = fs.map mkT
  len : fs.length = l.length
  keys : (fs.map (·.f2)).Nodup
  field : ∀ f ∈ fs, f.f0 = 0 ∧ 0 ≤ f.f3 ∧ f.f3 ≤ 5 ∧ (fText f).size ≤ 1000 ∧ f.f2 ∈ l
theorem texts_ok {s : ByteArray} {fs : List S48} {ts : List S65} (h : labelTextsB s fs = some (ts, true)) : ∃ l, Texts s fs l ts := by
  unfold labelTextsB at h
  split at h
  · cases h
  · rename_i names hn
    split at h
    · rename_i hl
      obtain ⟨⟨o, k⟩, ho, e⟩ := Option.map_eq_some_iff.1 h
      simp only [Prod.mk.injEq, decide_eq_true_eq] at e
      obtain ⟨rfl, hk⟩ := e
      obtain ⟨h1, h2, h3⟩ := ltGo_ok _ _ _ _ _ _ ho
      have hsh := shape hn
      refine ⟨names, hsh, by simpa using h1, hl, by rw [h2] at hk; simpa using hk, fun f hf => ?_⟩
      have := h3 f hf
      simp only [fieldOk, Bool.and_eq_true, decide_eq_true_eq, Bool.not_eq_true', decide_eq_false_iff_not] at this
      obtain ⟨⟨⟨⟨⟨a, b⟩, c⟩, d⟩, e⟩, g⟩ := this
      refine ⟨a, b, c, e, ?_⟩
      refine Classical.byContradiction fun hni => g ?_
      rw [List.nodup_append]
      refine ⟨hsh.nodup, by simp, ?_⟩
      intro x hx y hy e
      rw [List.mem_singleton] at hy
      subst hy; subst e
      exact hni hx
    · cases h
end H
end Go.Proofs.YtclmjmfcggkpaaaGreatDoor
set_option linter.unusedVariables false
set_option linter.unusedSimpArgs false
namespace Go.Proofs.YtclmjmfcggkpaaaGreatDoor
open Go.RowKit Go.Proofs.YtclmjmfcggkpaaaGreatDoorW.PrintWords Go.Proofs.YtclmjmfcggkpaaaGreatDoorW.PrintLast Go.Proofs.YtclmjmfcggkpaaaGreatDoorW.PrintMore
open PX
namespace H
theorem unres_rng {c : Int} (h : unres c = true) : c ≠ 123 ∧ c ≠ 125 ∧ c ≠ 37 ∧ 0 ≤ c ∧ c ≤ 255 := by
  simp [unres] at h
  omega
theorem lit_mem {b : List Int} (h : litL b = true) : ∀ c ∈ b, unres c = true := by
  unfold litL at h
  exact List.all_eq_true.1 h
section
variable {s : ByteArray} {l : List ByteArray}
theorem Shape.fine (H : Shape s l) {sub : List S65} (hb : ∀ t ∈ sub, noBr (bytesOf t.f1)) : Fine (sg sub) (Qof s) := by
  refine ⟨fun b hm c hc => ?_, fun n gr v hm hv => ?_, fun n gr hm => (H.word n gr hm).1⟩
  · have := unres_rng (lit_mem (H.lit b hm).1 c hc)
    exact ⟨this.1, this.2.1⟩
  · obtain ⟨t, ht, _, e⟩ := sg_some hv
    subst e
    exact ⟨hb t ht, fun c hc => bytesOf_range _ c hc⟩
theorem Shape.rngs (H : Shape s l) : ∀ b, Part.lit b ∈ Qof s → rng b := fun b hm c hc => by
  have := unres_rng (lit_mem (H.lit b hm).1 c hc)
  omega
theorem flat_len {α : Type} (f : α → List Int) (m : Nat) : ∀ (Q : List α), (∀ q ∈ Q, (f q).length ≤ m) → (Q.flatMap f).length ≤ Q.length * m := by
  intro Q
  induction Q with
  | nil => intro _; simp
  | cons q Q ih =>
    intro h
    have h1 := h q (by simp)
    have h2 := ih (fun x hx => h x (by simp [hx]))
    rw [List.flatMap_cons, List.length_append, List.length_cons, Nat.succ_mul]
    omega
theorem Shape.short (H : Shape s l) {sub : List S65} (hz : ∀ t ∈ sub, t.f1.size ≤ 1000) (esc : Bool) : ∀ q ∈ Qof s, (rp esc (sg sub) q).length ≤ 4000 := by
  intro q hq
  cases q with
  | lit b =>
    have := (H.lit b hq).2
    simp [rp]
    omega
  | lab n gr =>
    have hn := (H.word n gr hq).2
    cases hv : sg sub n with
    | none =>
      have : (rp esc (sg sub) (.lab n gr)).length = 2 + (n.length + (tail gr).length) := by simp [rp, hv]; omega
      rw [this]
      have : (tail gr).length ≤ 2 := by cases gr <;> simp [tail]
      omega
    | some v =>
      obtain ⟨t, ht, _, e⟩ := sg_some hv
      have h1 := hz t ht
      rw [← bytesOf_length, e] at h1
      have h2 := escB_len gr v
      cases esc
      · simp [rp, hv]; omega
      · simp [rp, hv]; omega
theorem Shape.long (H : Shape s l) {sub : List S65} (hz : ∀ t ∈ sub, t.f1.size ≤ 1000) (esc : Bool) : (path esc (sg sub) (Qof s)).length ≤ 4004000 := by
  have h1 := flat_len (rp esc (sg sub)) 4000 (Qof s) (H.short hz esc)
  have h2 := H.few
  unfold path
  have h3 := Nat.mul_le_mul_right 4000 h2
  omega
theorem Shape.names_nodup (H : Shape s l) : (names (Qof s)).Nodup := by
  rw [← H.nms]
  unfold List.Nodup
  rw [List.pairwise_map]
  exact H.nodup.imp fun hne e => hne (bytes_inj e)
theorem mem_names {Q : List Part} {n : List Int} (h : n ∈ names Q) : ∃ gr, Part.lab n gr ∈ Q := by
  unfold names at h
  obtain ⟨q, hq, e⟩ := List.mem_filterMap.1 h
  cases q with
  | lit b => cases e
  | lab m gr =>
    obtain rfl := Option.some.inj e
    exact ⟨gr, hq⟩
end
/-! ### One field -/
theorem Texts.step {s : ByteArray} {fs : List S48} {l : List ByteArray} {ts : List S65} (H : Texts s fs l ts) (hb : ∀ t ∈ ts, noBr (bytesOf t.f1)) (i : Nat) (hi : i < fs.length) (f : S48) (hf : fs[i]? = some f)
    {B eb : Nat} {q h : Value} {w : World} (he : EncS B eb q h (path false (sg (ts.take i)) (Qof s)) (path true (sg (ts.take i)) (Qof s)) w) :
    Lab B eb q h (path false (sg (ts.take i)) (Qof s)) (path true (sg (ts.take i)) (Qof s)) f.f2 (fText f) (path false (sg (ts.take (i + 1))) (Qof s)) (path true (sg (ts.take (i + 1))) (Qof s)) w := by
  have hmem : f ∈ fs := List.mem_of_getElem? hf
  obtain ⟨_, _, _, hv, hl⟩ := H.field f hmem
  have hfi : fs[i] = f := by rw [List.getElem?_eq_getElem hi] at hf; exact Option.some.inj hf
  have hts : ts.take (i + 1) = ts.take i ++ [mkT f] := by
    have hit : i < ts.length := by rw [H.ts]; simpa using hi
    rw [List.take_succ_eq_append_getElem hit]
    congr 2
    have := H.ts
    subst this
    rw [List.getElem_map, hfi]
  have hnk : bytesOf f.f2 ∉ (ts.take i).map (fun t => bytesOf t.f0) := by
    intro hm
    obtain ⟨t, ht, e⟩ := List.mem_map.1 hm
    rw [H.ts] at ht
    obtain ⟨j, hj, e2⟩ := List.mem_iff_getElem.1 ht
    simp at hj
    rw [List.getElem_take, List.getElem_map] at e2
    subst e2
    have e3 := bytes_inj e
    have hk := H.keys
    have := (List.getElem_inj (i := j) (j := i) (h₀ := by simp; omega) (h₁ := by simpa using hi) hk).1 (by
      rw [List.getElem_map, List.getElem_map, hfi]
      exact e3)
    omega
  have hsub : ∀ t ∈ ts.take i, noBr (bytesOf t.f1) := fun t ht => hb t (List.mem_of_mem_take ht)
  have hsz : ∀ t ∈ ts.take i, t.f1.size ≤ 1000 := fun t ht => by
    have := List.mem_of_mem_take ht
    rw [H.ts] at this
    obtain ⟨g, hg, e⟩ := List.mem_map.1 this
    subst e
    exact (H.field g hg).2.2.2.1
  have hnm : bytesOf f.f2 ∈ names (Qof s) := by rw [← H.shape.nms]; exact List.mem_map.2 ⟨_, hl, rfl⟩
  obtain ⟨gr, hgr⟩ := mem_names hnm
  have hkz := (H.shape.word _ gr hgr).2
  rw [bytesOf_length] at hkz
  obtain ⟨Q1, Q2, hQ⟩ := List.append_of_mem hgr
  have hF := H.shape.fine hsub
  have hL0 := H.shape.long hsz false
  have hL1 := H.shape.long hsz true
  have hR := H.shape.rngs
  have hD := H.shape.names_nodup
  rw [hts, sg_snoc _ _ hnk]
  rw [hQ] at hF hL0 hL1 hR hD he ⊢
  obtain ⟨a1, a2⟩ := idx_path (esc := false) (val := fText f) hF hR hD (sg_none hnk) hkz (by omega)
  obtain ⟨b1, b2⟩ := idx_path (esc := true) (val := fText f) hF hR hD (sg_none hnk) hkz (by omega)
  exact ⟨he, hkz, hv, by omega, by omega, gr, _, _, a1, b1, a2.symm, b2.symm⟩
/-! ### At the end -/
theorem all_in {α : Type} [DecidableEq α] : ∀ (a b : List α), a.Nodup → (∀ x ∈ a, x ∈ b) → b.length ≤ a.length → ∀ x ∈ b, x ∈ a := by
  intro a
  induction a with
  | nil =>
    intro b _ _ hl x hx
    have : b = [] := List.eq_nil_of_length_eq_zero (by simpa using hl)
    subst this
    cases hx
  | cons y a ih =>
    intro b hn hs hl x hx
    by_cases e : x = y
    · exact e ▸ List.mem_cons_self
    · have hy := hs y List.mem_cons_self
      have hn' := List.nodup_cons.1 hn
      refine List.mem_cons_of_mem _ (ih (b.erase y) hn'.2 (fun z hz => ?_) ?_ x ?_)
      · have hzy : z ≠ y := by rintro rfl; exact hn'.1 hz
        exact (List.mem_erase_of_ne hzy).2 (hs z (List.mem_cons_of_mem _ hz))
      · rw [List.length_erase_of_mem hy]
        simp at hl
        omega
      · exact (List.mem_erase_of_ne e).2 hx
theorem Texts.full {s : ByteArray} {fs : List S48} {l : List ByteArray} {ts : List S65} (H : Texts s fs l ts) : ∀ n gr, Part.lab n gr ∈ Qof s → ∃ v, sg ts n = some v := by
  intro n gr hm
  have hn : n ∈ names (Qof s) := by
    unfold names
    exact List.mem_filterMap.2 ⟨_, hm, rfl⟩
  rw [← H.shape.nms] at hn
  obtain ⟨k, hk, rfl⟩ := List.mem_map.1 hn
  have := all_in (fs.map (·.f2)) l H.keys (fun x hx => by
    obtain ⟨f, hf, rfl⟩ := List.mem_map.1 hx
    exact (H.field f hf).2.2.2.2) (by rw [List.length_map, H.len]; exact Nat.le_refl _) k hk
  obtain ⟨f, hf, rfl⟩ := List.mem_map.1 this
  rcases h : sg ts (bytesOf f.f2) with _ | v
  · exfalso
    unfold sg at h
    rw [Option.map_eq_none_iff, List.find?_eq_none] at h
    have := h (mkT f) (by rw [H.ts]; exact List.mem_map.2 ⟨f, hf, rfl⟩)
    simp [mkT] at this
  · exact ⟨v, rfl⟩
theorem unescL_app : ∀ (n : Nat) (a a' b : List Int), a.length ≤ n → unescL a = some a' → unescL (a ++ b) = (unescL b).map (a' ++ ·) := by
  intro n
  induction n with
  | zero =>
    intro a a' b hl h
    have : a = [] := List.eq_nil_of_length_eq_zero (by omega)
    subst this
    obtain rfl : [] = a' := by simpa [unescL] using h
    simp
  | succ n ih =>
    intro a a' b hl h
    cases a with
    | nil =>
      obtain rfl : [] = a' := by simpa [unescL] using h
      simp
    | cons c r =>
      simp only [List.length_cons] at hl
      rw [unescL_cons] at h
      rw [List.cons_append, unescL_cons]
      split at h
      · rename_i hc
        rw [if_pos hc]
        match r, h, hl with
        | [], h, _ => cases h
        | [x], h, _ => cases h
        | x :: y :: r', h, hl =>
          simp only at h
          simp only [List.cons_append]
          split at h
          · rename_i hxy
            rw [if_pos hxy]
            obtain ⟨u, hu, e⟩ := Option.map_eq_some_iff.1 h
            subst e
            simp only [List.length_cons] at hl
            rw [ih r' u b (by omega) hu]
            cases unescL b <;> simp
          · cases h
      · rename_i hc
        rw [if_neg hc]
        obtain ⟨u, hu, e⟩ := Option.map_eq_some_iff.1 h
        subst e
        rw [ih r u b (by omega) hu]
        cases unescL b <;> simp
theorem path_unesc {σ : List Int → Option (List Int)} : ∀ (Q : List Part), Fine σ Q → (∀ b, Part.lit b ∈ Q → litL b = true) → (∀ n gr, Part.lab n gr ∈ Q → ∃ v, σ n = some v) →
    unescL (path true σ Q) = some (path false σ Q) ∧ ∀ c ∈ path true σ Q, pathOk c = true := by
  intro Q
  induction Q with
  | nil => intro _ _ _; exact ⟨rfl, fun c hc => by cases hc⟩
  | cons q Q ih =>
    intro hF hL hA
    obtain ⟨h1, h2⟩ := ih hF.tail (fun b hb => hL b (by simp [hb])) (fun n gr hm => hA n gr (by simp [hm]))
    have key : unescL (rp true σ q) = some (rp false σ q) ∧ ∀ c ∈ rp true σ q, pathOk c = true := by
      cases q with
      | lit b =>
        have hb := lit_mem (hL b (by simp))
        refine ⟨unescL_none _ fun c hc => ?_, fun c hc => ?_⟩
        · rcases List.mem_cons.1 hc with rfl | hc
          · decide
          · exact (unres_rng (hb c hc)).2.2.1
        · rcases List.mem_cons.1 hc with rfl | hc
          · decide
          · unfold pathOk; rw [hb c hc]; rfl
      | lab n gr =>
        obtain ⟨v, hv⟩ := hA n gr (by simp)
        have hr := (hF.val n gr v (by simp) hv).2
        have e1 : rp true σ (.lab n gr) = 47 :: escB gr v := by simp [rp, hv]
        have e0 : rp false σ (.lab n gr) = 47 :: v := by simp [rp, hv]
        rw [e1, e0]
        refine ⟨?_, fun c hc => ?_⟩
        · rw [unescL_cons, if_neg (by decide), unesc_esc gr v hr]
          rfl
        · rcases List.mem_cons.1 hc with rfl | hc
          · decide
          · exact (esc_ok v hr gr c hc).1
    have e1 : path true σ (q :: Q) = rp true σ q ++ path true σ Q := by simp [path]
    have e0 : path false σ (q :: Q) = rp false σ q ++ path false σ Q := by simp [path]
    rw [e1, e0]
    refine ⟨?_, fun c hc => ?_⟩
    · rw [unescL_app _ _ _ _ (Nat.le_refl _) key.1, h1]
      rfl
    · rcases List.mem_append.1 hc with hc | hc
      · exact key.2 c hc
      · exact h2 c hc
theorem Texts.done {s : ByteArray} {fs : List S48} {l : List ByteArray} {ts : List S65} (H : Texts s fs l ts) (hb : ∀ t ∈ ts, noBr (bytesOf t.f1)) :
    unescL (path true (sg ts) (Qof s)) = some (path false (sg ts) (Qof s)) ∧ (∀ c ∈ path true (sg ts) (Qof s), pathOk c = true) ∧ path true (sg ts) (Qof s) ≠ [] := by
  obtain ⟨h1, h2⟩ := path_unesc (Qof s) (H.shape.fine hb) (fun b hm => (H.shape.lit b hm).1) H.full
  refine ⟨h1, h2, ?_⟩
  have := H.shape.ne
  cases hq : Qof s with
  | nil => exact absurd hq this
  | cons q Q => cases q <;> simp [path, rp]
end H
end Go.Proofs.YtclmjmfcggkpaaaGreatDoor
set_option linter.unusedVariables false
set_option linter.unusedSimpArgs false
namespace Go.Proofs.YtclmjmfcggkpaaaGreatDoor
open Go.RowKit Go.Proofs.YtclmjmfcggkpaaaGreatDoorW.PrintWords Go.Proofs.YtclmjmfcggkpaaaGreatDoorW.PrintLast Go.Proofs.YtclmjmfcggkpaaaGreatDoorW.PrintMore
open PX
namespace H
/-! ### spec.HaveBraces -/
def hasC (c : Int) (l : List Int) : Bool := l.any (fun x => decide (x = c))
theorem hasByte_eq (s : ByteArray) (c : Int) (hs : s.size ≤ 140737488355328) : ∀ (n k : Nat), n = s.size - k → k ≤ s.size → ∀ F, n + 1 ≤ F →
    spec_HasByte.l0 F s c (s.size : Int) (k : Int) = some (hasC c ((bytesOf s).drop k)) := by
  intro n
  induction n with
  | zero =>
    intro k hn hk F hF
    obtain rfl : k = s.size := by omega
    match F, hF with
    | F + 1, _ =>
      rw [spec_HasByte.l0, if_neg (by omega), List.drop_of_length_le (by rw [bytesOf_length]; exact Nat.le_refl _)]
      rfl
  | succ n ih =>
    intro k hn hk F hF
    have hlt : k < s.size := by omega
    match F, hF with
    | F + 1, hF =>
      have IH := ih (k + 1) (by omega) (by omega) F (by omega)
      rw [drop_bt s k hlt, spec_HasByte.l0, if_pos (by omega), if_pos (by omega), if_pos (by omega), wr1 k s.size hlt hs, IH]
      unfold hasC
      rw [List.any_cons]
      split
      · rename_i h; simp [h]
      · rename_i h; simp [h]
def braces (t : S65) : Bool := hasC 123 (bytesOf t.f1) || hasC 125 (bytesOf t.f1)
theorem drop_T65 (ts : List S65) (k : Nat) (h : k < ts.length) : ts.drop k = rd_T65 ts (k : Int) :: ts.drop (k + 1) := by
  rw [List.drop_eq_getElem_cons h]
  simp [rd_T65, List.getElem?_eq_getElem h, h]
theorem haveBraces_eq (ts : List S65) (hl : ts.length ≤ 2147483647) (hz : ∀ t ∈ ts, t.f1.size ≤ 1000) : ∀ (n k : Nat), n = ts.length - k → k ≤ ts.length → ∀ F, n + 1002 ≤ F →
    spec_HaveBraces.l0 F ts (ts.length : Int) (k : Int) = some ((ts.drop k).any braces) := by
  intro n
  induction n with
  | zero =>
    intro k hn hk F hF
    obtain rfl : k = ts.length := by omega
    match F, hF with
    | F + 1, _ =>
      rw [spec_HaveBraces.l0, if_neg (by omega), List.drop_of_length_le (Nat.le_refl _)]
      rfl
  | succ n ih =>
    intro k hn hk F hF
    have hlt : k < ts.length := by omega
    match F, hF with
    | F + 1, hF =>
      have IH := ih (k + 1) (by omega) (by omega) F (by omega)
      have hd := drop_T65 ts k hlt
      have hm : rd_T65 ts (k : Int) ∈ ts := List.mem_of_mem_drop (i := k) (by rw [hd]; exact List.mem_cons_self)
      have hsz := hz _ hm
      rw [hd, spec_HaveBraces.l0, if_pos (by omega), if_pos (by omega), if_pos (by omega), wr1 k ts.length hlt (by omega), IH]
      generalize rd_T65 ts (k : Int) = t at *
      have h1 := hasByte_eq t.f1 123 (by omega) t.f1.size 0 (by omega) (by omega) F (by omega)
      have h2 := hasByte_eq t.f1 125 (by omega) t.f1.size 0 (by omega) (by omega) F (by omega)
      rw [List.drop_zero] at h1 h2
      unfold spec_HasByte.f
      rw [show (0 : Int) = ((0 : Nat) : Int) from rfl, h1, h2]
      simp only [Option.bind_some, List.any_cons, braces]
      cases hasC 123 (bytesOf t.f1) <;> cases hasC 125 (bytesOf t.f1) <;> simp
theorem haveBraces_call (A : Option Addr) (c : Nat) (ts : List S65) (w : World) (hr : Kd.C k65 w A ts.length ts) (hc : ts.length ≤ c) (hl : ts.length ≤ 2147483647) (hz : ∀ t ∈ ts, t.f1.size ≤ 1000) :
    Calls Tryz.prog 14 #[.slice A ts.length c] w fun e w' => e = .returned (.bool (ts.any braces)) ∧ Below w.heap.size w w' :=
  spec_HaveBraces.calls (ts.length + 1002) A c ts _ w hr hc (by
    have := haveBraces_eq ts hl hz ts.length 0 (by omega) (by omega) (ts.length + 1002) (Nat.le_refl _)
    rw [List.drop_zero] at this
    exact this)
theorem noBr_of {ts : List S65} (h : ts.any braces = false) : ∀ t ∈ ts, noBr (bytesOf t.f1) := by
  intro t ht c hc
  rw [List.any_eq_false] at h
  have := h t ht
  simp only [braces, Bool.or_eq_true, hasC, not_or, List.any_eq_true, decide_eq_true_eq, not_exists, not_and] at this
  exact ⟨this.1 c hc, this.2 c hc⟩
/-! ### spec.Filled -/
def G (esc gr : Bool) (n : List Int) : List S65 → List Int
  | [] => []
  | t :: ts => (if bytesOf t.f0 = n then (if esc then escB gr (bytesOf t.f1) else bytesOf t.f1) else []) ++ G esc gr n ts
theorem G_none {esc gr : Bool} {n : List Int} : ∀ {ts : List S65}, n ∉ ts.map (fun t => bytesOf t.f0) → G esc gr n ts = [] := by
  intro ts
  induction ts with
  | nil => intro _; rfl
  | cons t ts ih =>
    intro h
    simp only [List.map_cons, List.mem_cons, not_or] at h
    rw [G, if_neg (Ne.symm h.1), ih h.2]
    rfl
theorem G_eq {esc gr : Bool} {n v : List Int} : ∀ {ts : List S65}, (ts.map (fun t => bytesOf t.f0)).Nodup → sg ts n = some v → G esc gr n ts = if esc then escB gr v else v := by
  intro ts
  induction ts with
  | nil => intro _ h; cases h
  | cons t ts ih =>
    intro hn h
    rw [List.map_cons, List.nodup_cons] at hn
    by_cases e : bytesOf t.f0 = n
    · subst e
      rw [G, if_pos rfl, G_none hn.1, List.append_nil]
      unfold sg at h
      rw [List.find?_cons_of_pos (by simp)] at h
      obtain rfl := Option.some.inj h
      rfl
    · rw [G, if_neg e, List.nil_append]
      refine ih hn.2 ?_
      unfold sg at h ⊢
      rw [List.find?_cons_of_neg (by simpa using e)] at h
      exact h
theorem app_nil (x : ByteArray) : x ++ strOfNums [] = x := by
  apply ByteArray.ext
  simp [strOfNums]
theorem app_app (x : ByteArray) (a b : List Int) : x ++ strOfNums a ++ strOfNums b = x ++ strOfNums (a ++ b) := by
  apply ByteArray.ext
  simp [strOfNums]
theorem app_bytes (x s : ByteArray) : x ++ s = x ++ strOfNums (bytesOf s) := by rw [strOf_bytesOf]
theorem app_size (x : ByteArray) (a : List Int) : (x ++ strOfNums a).size = x.size + a.length := by simp [strOfNums_size]
theorem escaped_f (s : ByteArray) (sl : Bool) (hs : s.size ≤ 1000) (F : Nat) (hF : 2001 ≤ F) : spec_Escaped.f F s sl = some (strOfNums (escB sl (bytesOf s))) := by
  have := escaped_eq s sl (by omega) s.size 0 (by omega) (by omega) F (by omega)
  simpa [spec_Escaped.f, escB] using this
theorem l1_eq (ts : List S65) (hl : ts.length ≤ 2147483647) (hz : ∀ t ∈ ts, t.f1.size ≤ 1000) (nm : ByteArray) (gr : Bool) (parts : List ByteArray) (N k : Int) : ∀ (m j : Nat), m = ts.length - j → j ≤ ts.length → ∀ F', 3000 ≤ F' → ∀ x6 x7 : ByteArray,
    x6.size + (G false gr (bytesOf nm) (ts.drop j)).length ≤ 1000000000000 → x7.size + (G true gr (bytesOf nm) (ts.drop j)).length ≤ 1000000000000 →
    spec_Filled.l1 (F' + m + 1) ts x6 x7 nm gr parts N k ts (ts.length : Int) (j : Int) =
      spec_Filled.l0 F' ts (x6 ++ strOfNums (G false gr (bytesOf nm) (ts.drop j))) (x7 ++ strOfNums (G true gr (bytesOf nm) (ts.drop j))) parts N (wrap64 (k + 1)) := by
  intro m
  induction m with
  | zero =>
    intro j hn hj F' hF x6 x7 h6 h7
    obtain rfl : j = ts.length := by omega
    rw [Nat.add_zero, spec_Filled.l1, if_neg (by omega), List.drop_of_length_le (Nat.le_refl _)]
    simp only [G, app_nil]
  | succ m ih =>
    intro j hn hj F' hF x6 x7 h6 h7
    have hlt : j < ts.length := by omega
    have hd := drop_T65 ts j hlt
    have hm : rd_T65 ts (j : Int) ∈ ts := List.mem_of_mem_drop (i := j) (by rw [hd]; exact List.mem_cons_self)
    have hsz := hz _ hm
    rw [hd] at h6 h7 ⊢
    rw [show F' + (m + 1) + 1 = (F' + m + 1) + 1 from by omega, spec_Filled.l1, if_pos (by omega), if_pos (by omega), if_pos (by omega), wr1 j ts.length hlt (by omega)]
    generalize rd_T65 ts (j : Int) = t at *
    simp only [G, List.length_append] at h6 h7 ⊢
    by_cases e : bytesOf t.f0 = bytesOf nm
    · simp only [e, if_true, Bool.false_eq_true, if_false] at h6 h7 ⊢
      rw [bytesOf_length] at h6
      rw [if_pos ((toList_iff _ _).2 e), if_pos (by omega), escaped_f _ _ hsz _ (by omega)]
      simp only [Option.bind_some]
      rw [strOfNums_size, if_pos (by omega), ih (j + 1) (by omega) (by omega) F' hF _ _ (by rw [ByteArray.size_append]; omega) (by rw [app_size]; omega), app_bytes x6 t.f1, app_app, app_app]
    · simp only [e, if_false, List.nil_append, List.length_nil, Nat.zero_add] at h6 h7 ⊢
      rw [if_neg (fun h => e ((toList_iff _ _).1 h)), ih (j + 1) (by omega) (by omega) F' hF _ _ h6 h7]
theorem rdOf_drop (l : List ByteArray) (k : Nat) (h : k < l.length) : l.drop k = rdOf ByteArray.empty l (k : Int) :: l.drop (k + 1) := by
  rw [List.drop_eq_getElem_cons h]
  simp [rdOf, List.getElem?_eq_getElem h, h]
theorem l0_eq (ts : List S65) (hl : ts.length ≤ 2147483647) (hz : ∀ t ∈ ts, t.f1.size ≤ 1000) (parts : List ByteArray) (hp : ∀ p ∈ parts, p.size ≤ 1000) (hpl : parts.length ≤ 2147483647)
    (hG : ∀ p ∈ parts, (labelB p).2.2 = true → ∀ esc, rp esc (sg ts) (toPart p) = 47 :: G esc (labelB p).2.1 (bytesOf (labelB p).1) ts) : ∀ (n k : Nat), n = parts.length - k → k ≤ parts.length → ∀ F, 3000 + n * (ts.length + 2) + 1 ≤ F → ∀ x6 x7 : ByteArray,
    x6.size + (path false (sg ts) ((parts.drop k).map toPart)).length ≤ 1000000000000 → x7.size + (path true (sg ts) ((parts.drop k).map toPart)).length ≤ 1000000000000 →
    spec_Filled.l0 F ts x6 x7 parts (parts.length : Int) (k : Int) =
      some (x6 ++ strOfNums (path false (sg ts) ((parts.drop k).map toPart)), x7 ++ strOfNums (path true (sg ts) ((parts.drop k).map toPart))) := by
  intro n
  induction n with
  | zero =>
    intro k hn hk F hF x6 x7 h6 h7
    obtain rfl : k = parts.length := by omega
    match F, hF with
    | F + 1, _ =>
      rw [spec_Filled.l0, if_neg (by omega), List.drop_of_length_le (Nat.le_refl _)]
      simp only [List.map_nil, path, List.flatMap_nil, app_nil]
  | succ n ih =>
    intro k hn hk F hF x6 x7 h6 h7
    have hlt : k < parts.length := by omega
    have hd := rdOf_drop parts k hlt
    have hm : rdOf ByteArray.empty parts (k : Int) ∈ parts := List.mem_of_mem_drop (i := k) (by rw [hd]; exact List.mem_cons_self)
    have hsz := hp _ hm
    have hg := hG _ hm
    rw [hd] at h6 h7 ⊢
    rw [Nat.succ_mul] at hF
    match F, hF with
    | F + 1, hF =>
      rw [spec_Filled.l0, if_pos (by omega), if_pos (by omega), if_pos (by omega)]
      generalize rdOf ByteArray.empty parts (k : Int) = p at *
      have ec : ∀ esc, path esc (sg ts) (((p :: parts.drop (k + 1)).map toPart)) = rp esc (sg ts) (toPart p) ++ path esc (sg ts) ((parts.drop (k + 1)).map toPart) := fun esc => by simp [path]
      rw [ec, List.length_append] at h6 h7
      rw [ec, ec]
      have e47 : (⟨#[47]⟩ : ByteArray) = strOfNums [47] := rfl
      have hlab : spec_label.f p = some (labelB p) := by unfold spec_label.f; rw [if_pos (by omega)]
      cases hb : (labelB p).2.2 with
      | true =>
        have hg0 := hg hb false
        have hg1 := hg hb true
        rw [hg0, List.length_cons] at h6
        rw [hg1, List.length_cons] at h7
        rw [hg0, hg1]
        rw [if_pos (by omega), if_pos (by omega), hlab]
        simp only [Option.bind_some]
        rw [hb, if_pos rfl, e47]
        obtain ⟨F', hF'⟩ : ∃ F', F = F' + ts.length + 1 := ⟨F - ts.length - 1, by omega⟩
        rw [hF', show (0 : Int) = ((0 : Nat) : Int) from rfl, l1_eq ts hl hz (labelB p).1 (labelB p).2.1 parts _ _ ts.length 0 (by omega) (by omega) F' (by omega) _ _ (by rw [app_size, List.drop_zero, List.length_singleton]; omega) (by rw [app_size, List.drop_zero, List.length_singleton]; omega)]
        rw [List.drop_zero, wr1 k parts.length hlt (by omega), app_app, app_app]
        rw [ih (k + 1) (by omega) (by omega) F' (by omega) _ _ (by rw [app_size]; simp only [List.length_append, List.length_cons, List.length_nil]; omega) (by rw [app_size]; simp only [List.length_append, List.length_cons, List.length_nil]; omega)]
        rw [app_app, app_app]
        simp
      | false =>
        have ep : ∀ esc, rp esc (sg ts) (toPart p) = 47 :: bytesOf p := fun esc => by
          unfold toPart
          rw [if_neg (by rw [hb]; decide)]
          rfl
        rw [ep, List.length_cons, bytesOf_length] at h6 h7
        rw [ep, ep]
        rw [if_pos (by omega), if_pos (by omega), hlab]
        simp only [Option.bind_some]
        rw [hb, if_neg (by decide), e47, if_pos (by rw [app_size, List.length_singleton]; omega), if_pos (by rw [app_size, List.length_singleton]; omega), wr1 k parts.length hlt (by omega)]
        rw [ih (k + 1) (by omega) (by omega) F (by omega) _ _ (by rw [ByteArray.size_append, app_size, List.length_singleton]; omega) (by rw [ByteArray.size_append, app_size, List.length_singleton]; omega)]
        rw [app_bytes (x6 ++ strOfNums [47]) p, app_bytes (x7 ++ strOfNums [47]) p, app_app, app_app, app_app, app_app]
        simp
theorem Texts.filled_call {s : ByteArray} {fs : List S48} {l : List ByteArray} {ts : List S65} (H : Texts s fs l ts) (A : Option Addr) (c : Nat) (w : World) (hr : Kd.C k65 w A ts.length ts) (hc : ts.length ≤ c) :
    Calls Tryz.prog 20 #[.string s, .slice A ts.length c] w fun e w' => e = .returned (.tuple #[.string (strOfNums (path false (sg ts) (Qof s))), .string (strOfNums (path true (sg ts) (Qof s)))]) ∧ Below w.heap.size w w' := by
  have hz : ∀ t ∈ ts, t.f1.size ≤ 1000 := fun t ht => by
    rw [H.ts] at ht
    obtain ⟨g, hg, e⟩ := List.mem_map.1 ht
    subst e
    exact (H.field g hg).2.2.2.1
  have hkn : (ts.map (fun t => bytesOf t.f0)).Nodup := by
    rw [H.ts, List.map_map]
    have hk := H.keys
    unfold List.Nodup at hk ⊢
    rw [List.pairwise_map] at hk ⊢
    exact hk.imp fun hne e => hne (bytes_inj e)
  have hll : l.length ≤ 1001 := by
    have h1 := congrArg List.length H.shape.nms
    have h2 := H.shape.few
    have h3 : (names (Qof s)).length ≤ (Qof s).length := List.length_filterMap_le _ _
    rw [List.length_map] at h1
    omega
  have hlt : ts.length ≤ 1001 := by rw [H.ts, List.length_map, H.len]; exact hll
  have hps : ∀ p ∈ pieces s, p.size ≤ 1000 := fun p hp => by
    have h1 := parts_size hp
    have h2 := H.shape.size
    simp at h1
    omega
  have hpl : (pieces s).length ≤ 1001 := by have := H.shape.few; simpa [Qof] using this
  have hs1 : 1 ≤ s.size := by
    rcases Nat.eq_zero_or_pos s.size with h0 | h0
    · exfalso
      have h1 := H.shape.eq false
      have h2 : bytesOf s = [] := List.eq_nil_of_length_eq_zero (by rw [bytesOf_length]; exact h0)
      rw [h2] at h1
      have h3 := H.shape.ne
      cases hq : Qof s with
      | nil => exact h3 hq
      | cons q Q => rw [hq] at h1; cases q <;> simp [path, rp] at h1
    · exact h0
  have hGG : ∀ p ∈ pieces s, (labelB p).2.2 = true → ∀ esc, rp esc (sg ts) (toPart p) = 47 :: G esc (labelB p).2.1 (bytesOf (labelB p).1) ts := by
    intro p hp hb esc
    have e : toPart p = .lab (bytesOf (labelB p).1) (labelB p).2.1 := by unfold toPart; rw [if_pos hb]
    have hm : Part.lab (bytesOf (labelB p).1) (labelB p).2.1 ∈ Qof s := List.mem_map.2 ⟨p, hp, e⟩
    obtain ⟨v, hv⟩ := H.full _ _ hm
    rw [e, G_eq hkn hv]
    simp only [rp, hv]
  have h0 := H.shape.long hz false
  have h1 := H.shape.long hz true
  have hmul : (pieces s).length * (ts.length + 2) ≤ 1001 * 1003 := Nat.mul_le_mul hpl (by omega)
  have hev := l0_eq ts (by omega) hz (pieces s) hps (by omega) hGG (pieces s).length 0 (by omega) (by omega) 2000000 (by omega) (⟨#[]⟩ : ByteArray) (⟨#[]⟩ : ByteArray) (by rw [List.drop_zero]; exact Nat.le_trans (Nat.add_le_add_left h0 _) (by show 0 + 4004000 ≤ 1000000000000; omega)) (by rw [List.drop_zero]; exact Nat.le_trans (Nat.add_le_add_left h1 _) (by show 0 + 4004000 ≤ 1000000000000; omega))
  have hsp : spec_split.f 2000000 (s.extract 1 s.size) 47 = some (pieces s) := by
    have hz2 := H.shape.size
    have := split_eq' 47 (s.extract 1 s.size).size (s.extract 1 s.size) [] (Nat.le_refl _) (by simp; omega) (by simp; omega) 2000000 (by simp; omega)
    simpa [spec_split.f, pieces] using this
  refine spec_Filled.calls 2000000 s A c ts _ _ w hr hc ?_
  unfold spec_Filled.f
  rw [if_pos (by omega), hsp]
  simp only [Option.bind_some]
  rw [show (0 : Int) = ((0 : Nat) : Int) from rfl, hev, List.drop_zero]
  have em : ∀ a : List Int, (⟨#[]⟩ : ByteArray) ++ strOfNums a = strOfNums a := fun a => by apply ByteArray.ext; simp [strOfNums]
  rw [em, em]
  rfl
end H
end Go.Proofs.YtclmjmfcggkpaaaGreatDoor
set_option linter.unusedVariables false
set_option linter.unusedSimpArgs false
namespace Go.Proofs.YtclmjmfcggkpaaaGreatDoor
open Go.RowKit Go.Proofs.YtclmjmfcggkpaaaGreatDoorW.PrintWords Go.Proofs.YtclmjmfcggkpaaaGreatDoorW.PrintLast Go.Proofs.YtclmjmfcggkpaaaGreatDoorW.PrintMore
open PX
namespace H
theorem drop_T48 (fs : List S48) (k : Nat) (h : k < fs.length) : fs.drop k = rd_T48 fs (k : Int) :: fs.drop (k + 1) := by
  rw [List.drop_eq_getElem_cons h]
  simp [rd_T48, List.getElem?_eq_getElem h, h]
/-- What the law's bound says of the fields. -/
def fitF (f : S48) : Prop := f.f1.size ≤ 2147483647 ∧ f.f2.size ≤ 2147483647 ∧ f.f4.size ≤ 2147483647
theorem fits_from (fs : List S48) (hl : fs.length ≤ 2147483647) : ∀ (n k : Nat), n = fs.length - k → k ≤ fs.length → ∃ b F, laws_zzFits1.l0 F fs (fs.length : Int) (k : Int) = some b ∧ (b = true → ∀ f ∈ fs.drop k, fitF f) := by
  intro n
  induction n with
  | zero =>
    intro k hn hk
    obtain rfl : k = fs.length := by omega
    refine ⟨true, 1, ?_, fun _ f hf => ?_⟩
    · rw [laws_zzFits1.l0, if_neg (by omega)]
    · rw [List.drop_of_length_le (Nat.le_refl _)] at hf
      cases hf
  | succ n ih =>
    intro k hn hk
    have hlt : k < fs.length := by omega
    obtain ⟨b, F, h1, h2⟩ := ih (k + 1) (by omega) (by omega)
    have hd := drop_T48 fs k hlt
    have hstep : ∀ F, laws_zzFits1.l0 (F + 1) fs (fs.length : Int) (k : Int) = ((laws_zzFits2.f ((rd_T48 fs (k : Int)).f0) ((rd_T48 fs (k : Int)).f1) ((rd_T48 fs (k : Int)).f2) ((rd_T48 fs (k : Int)).f3) ((rd_T48 fs (k : Int)).f4) ((rd_T48 fs (k : Int)).f5)).bind fun t => if t = true then (laws_zzFits1.l0 F fs (fs.length : Int) ((k + 1 : Nat) : Int)) else (some false)) := by
      intro F
      rw [laws_zzFits1.l0, if_pos (by omega), if_pos (by omega), if_pos (by omega), wr1 k fs.length hlt (by omega)]
    rw [hd]
    generalize rd_T48 fs (k : Int) = f at *
    by_cases hf : fitF f
    · refine ⟨b, F + 1, ?_, fun hb g hg => ?_⟩
      · rw [hstep]
        unfold laws_zzFits2.f
        obtain ⟨a1, a2, a3⟩ := hf
        rw [if_neg (by omega), if_neg (by omega), if_neg (by omega)]
        simpa using h1
      · rcases List.mem_cons.1 hg with rfl | hg
        · exact hf
        · exact h2 hb g hg
    · refine ⟨false, F + 1, ?_, fun hb => by cases hb⟩
      rw [hstep]
      have : laws_zzFits2.f f.f0 f.f1 f.f2 f.f3 f.f4 f.f5 = some false := by
        unfold laws_zzFits2.f
        unfold fitF at hf
        split
        · rfl
        · split
          · rfl
          · split
            · rfl
            · exfalso; apply hf; omega
      rw [this]
      rfl
theorem fits_call (fs : List S48) (A0 : Option Addr) (c0 : Nat) (w : World) (hr : Kd.C k48 w A0 fs.length fs) (hc : fs.length ≤ c0) :
    ∃ b, Calls Tryz.prog 11 #[.slice A0 fs.length c0] w (fun e w' => e = .returned (.bool b) ∧ Below w.heap.size w w') ∧ (b = true → fs.length ≤ 2147483647 ∧ ∀ f ∈ fs, fitF f) := by
  by_cases hl : fs.length ≤ 2147483647
  · obtain ⟨b, F, h1, h2⟩ := fits_from fs hl fs.length 0 (by omega) (by omega)
    refine ⟨b, laws_zzFits1.calls F A0 c0 fs b w hr hc ?_, fun hb => ⟨hl, ?_⟩⟩
    · unfold laws_zzFits1.f
      rw [if_neg (by omega)]
      exact h1
    · have := h2 hb
      rwa [List.drop_zero] at this
  · exact ⟨false, laws_zzFits1.calls 0 A0 c0 fs false w hr hc (by unfold laws_zzFits1.f; rw [if_pos (by omega)]), fun hb => by cases hb⟩
theorem textS_kind {k : Int} (text : ByteArray) (num : Int) (h0 : 0 ≤ k) (h1 : k ≤ 5) : textS k text num = kindS k text num := by
  unfold textS
  rw [if_neg (by omega), if_neg (by omega)]
theorem Texts.bind_call {s : ByteArray} {fs : List S48} {l : List ByteArray} {ts : List S65} (H : Texts s fs l ts) (hb : ∀ t ∈ ts, noBr (bytesOf t.f1)) (A0 : Option Addr) (c0 : Nat) (w : World) (hT : Tab w) (hP : Pow w)
    (hr : Kd.C k48 w A0 fs.length fs) (hc : fs.length ≤ c0) (hl : fs.length ≤ 2147483647) (hn : ∀ f ∈ fs, -9223372036854775808 ≤ f.f5 ∧ f.f5 ≤ 9223372036854775807) :
    Calls Tryz.prog 18 #[.string s, .string ⟨#[]⟩, .slice none 0 0, .slice A0 fs.length c0] w fun e w' =>
      e = .returned (.tuple #[.agg #[.string (strOfNums (path false (sg ts) (Qof s))), .string (strOfNums (path true (sg ts) (Qof s))), .string (strOfNums (path true (sg ts) (Qof s))), .string ⟨#[]⟩, .slice none 0 0, .int .i64 0], .bool true]) ∧ Below w.heap.size w w' := by
  have hlen : ts.length = fs.length := by rw [H.ts, List.length_map]
  have htk : ts.take fs.length = ts := List.take_of_length_le (by omega)
  have hz : ∀ t ∈ ts, t.f1.size ≤ 1000 := fun t ht => by
    rw [H.ts] at ht
    obtain ⟨g, hg, e⟩ := List.mem_map.1 ht
    subst e
    exact (H.field g hg).2.2.2.1
  have hrg : ∀ esc, rng (path esc (sg ts) (Qof s)) := fun esc => rng_path (H.shape.fine hb) H.shape.rngs
  obtain ⟨u1, u2, u3⟩ := H.done hb
  have hlong := H.shape.long hz true
  have := bind_labels s (strOfNums (path true (sg ts) (Qof s))) fs A0 c0 (fun i => path false (sg (ts.take i)) (Qof s)) (fun i => path true (sg (ts.take i)) (Qof s)) w hT hr hc hl (by have := H.shape.size; omega)
    (H.shape.eq false) (H.shape.eq true)
    (fun i hi B eb q h w' hw he => by
      have hfk : fs[i]? = some (rd_T48 fs (i : Int)) := by simp [rd_T48, List.getElem?_eq_getElem hi, hi]
      have hL := H.step hb i hi (rd_T48 fs (i : Int)) hfk he
      have hmem := List.mem_of_getElem? hfk
      generalize rd_T48 fs (i : Int) = f at *
      obtain ⟨k0, k1, k2, _, _⟩ := H.field f hmem
      have hx : fText f = kindS f.f3 f.f4 f.f5 := textS_kind _ _ k1 k2
      rw [hx] at hL
      have := put_uri hL (hP.below hw) ⟨k1, k2⟩ (hn f hmem) f.f1
      unfold FS
      rw [k0]
      exact this)
    (fun b w' hT' h4 h7 => by
      simp only [htk] at h4 h7
      refine ep_call b _ _ w' hT' h4 h7 ?_ ?_ ?_ ?_
      · refine ne_nil _ ?_
        rw [strOfNums_size]
        exact List.length_pos_iff.2 u3
      · rw [strOfNums_size]; omega
      · rw [bytesOf_strOf _ (hrg true)]; exact u2
      · rw [bytesOf_strOf _ (hrg true), bytesOf_strOf _ (hrg false)]; exact u1)
  simp only [htk] at this
  exact this
/-- What stays true from call to call. -/
structure Env (w w' : World) (fs : List S48) (A0 : Option Addr) : Prop where
  below : Below w.heap.size w w'
  tab : Tab w'
  pow : Pow w'
  row : Kd.C k48 w' A0 fs.length fs
theorem Env.call {w w' w'' : World} {fs : List S48} {A0 : Option Addr} (h : Env w w' fs A0) (hb : Below w'.heap.size w' w'') : Env w w'' fs A0 :=
  ⟨below_then h.below h.below.size hb, h.tab.below hb h.tab.lt, h.pow.below hb, Kd.C_below h.row hb⟩
theorem Env.works {w w' : World} {fs : List S48} {A0 : Option Addr} (h : Env w w' fs A0) : Calls Tryz.prog 17 #[] w' fun e w'' => e = .returned (.bool true) ∧ Below w'.heap.size w' w'' := works_call w' h.tab
set_option maxHeartbeats 1000000 in
set_option maxRecDepth 100000 in
theorem fnLabels (s : ByteArray) (fs : List S48) (A0 : Option Addr) (c0 : Nat) (w : World) (hr : Kd.C k48 w A0 fs.length fs) (hc : fs.length ≤ c0) (hn : ∀ f ∈ fs, -9223372036854775808 ≤ f.f5 ∧ f.f5 ≤ 9223372036854775807) (hT : Tab w) (hP : Pow w) :
    Calls Tryz.prog 7 #[.string s, .slice A0 fs.length c0] w fun e w' => e = .returned (.bool true) ∧ Below w.heap.size w w' := by
  have HE : Aside0 (Env w w fs A0) := .mk ⟨Below.refl _ _, hT, hP, hr⟩
  obtain ⟨b, h11, hfit⟩ := fits_call fs A0 c0 w hr hc
  replace h11 := Aside0.mk h11
  clear hT hP
  replace hr := Aside0.mk hr
  replace hn := Aside0.mk hn
  by_cases c1 : (s.size : Int) > 2147483647
  · clear h11 hfit
    go_enter Tryz.func7, Tryz.ntmps7
    go_wp2_with fail
    go_ret
    exact ⟨rfl, Below.refl _ _⟩
  · cases b with
    | false =>
      go_enter Tryz.func7, Tryz.ntmps7
      go_wp2_with fail
      refine h11.out.mono ?_
      rintro e w1 ⟨rfl, hb1⟩
      go_wp2
      go_ret
      exact ⟨rfl, hb1⟩
    | true =>
      obtain ⟨hl, hff⟩ := hfit rfl
      have hz : Aside0 (∀ f ∈ fs, f.f4.size ≤ 2147483647 ∧ -9223372036854775808 ≤ f.f5 ∧ f.f5 ≤ 9223372036854775807) := .mk fun f hf => ⟨(hff f hf).2.2, hn.out f hf⟩
      clear hfit hff
      have h13 : Aside0 (∀ w', Kd.C k48 w' A0 fs.length fs → Calls Tryz.prog 13 #[.string s, .slice A0 fs.length c0] w' (LtP (labelTextsB s fs) w')) := .mk fun w' h => labelTexts_call s fs A0 c0 w' h hc (by omega) hl hz.out
      rcases h : labelTextsB s fs with _ | ⟨ts, b⟩
      · rw [h] at h13
        clear h
        go_enter Tryz.func7, Tryz.ntmps7
        go_wp2_with fail
        refine h11.out.mono ?_
        rintro e w1 ⟨rfl, hb1⟩
        have HE1 := Aside0.mk (HE.out.call hb1)
        clear hb1
        go_wp2_with fail
        refine (h13.out w1 HE1.out.row).mono ?_
        rintro e w2 ⟨hb2, rfl⟩
        have HE2 := Aside0.mk (HE1.out.call hb2)
        clear hb2
        go_wp2_with fail
        refine HE2.out.works.mono ?_
        rintro e w3 ⟨rfl, hb3⟩
        have HE3 := Aside0.mk (HE2.out.call hb3)
        clear hb3
        go_wp2
        go_ret
        exact ⟨rfl, HE3.out.below⟩
      · rw [h] at h13
        cases b with
        | false =>
          clear h
          go_enter Tryz.func7, Tryz.ntmps7
          go_wp2_with fail
          refine h11.out.mono ?_
          rintro e w1 ⟨rfl, hb1⟩
          have HE1 := Aside0.mk (HE.out.call hb1)
          clear hb1
          go_wp2_with fail
          refine (h13.out w1 HE1.out.row).mono ?_
          rintro e w2 ⟨hb2, v, rfl, hv⟩
          have HE2 := Aside0.mk (HE1.out.call hb2)
          clear hb2 hv
          go_wp2_with fail
          refine HE2.out.works.mono ?_
          rintro e w3 ⟨rfl, hb3⟩
          have HE3 := Aside0.mk (HE2.out.call hb3)
          clear hb3
          go_wp2
          go_ret
          exact ⟨rfl, HE3.out.below⟩
        | true =>
          obtain ⟨l, H⟩ := texts_ok h
          clear h
          have hlen : ts.length = fs.length := by rw [H.ts, List.length_map]
          have hts : Aside0 (∀ t ∈ ts, t.f1.size ≤ 1000) := .mk fun t ht => by
            rw [H.ts] at ht
            obtain ⟨g, hg, e⟩ := List.mem_map.1 ht
            subst e
            exact (H.field g hg).2.2.2.1
          replace H := Aside0.mk H
          replace hlen := Aside0.mk hlen
          go_enter Tryz.func7, Tryz.ntmps7
          go_wp2_with fail
          refine h11.out.mono ?_
          rintro e w1 ⟨rfl, hb1⟩
          have HE1 := Aside0.mk (HE.out.call hb1)
          clear hb1
          go_wp2_with fail
          refine (h13.out w1 HE1.out.row).mono ?_
          rintro e w2 ⟨hb2, v, rfl, hv⟩
          have HE2 := Aside0.mk (HE1.out.call hb2)
          obtain ⟨At, ct, et, hct, hCt⟩ := Kd.R_reads hv
          subst et
          replace hCt := Aside0.mk hCt
          replace hct := Aside0.mk hct
          clear hb2 hv
          have h14 : Aside0 (Calls Tryz.prog 14 #[.slice At ts.length ct] w2 fun e w' => e = .returned (.bool (ts.any braces)) ∧ Below w2.heap.size w2 w') := .mk (haveBraces_call At ct ts w2 hCt.out hct.out (by have := hlen.out; omega) hts.out)
          cases hbr : ts.any braces with
          | true =>
            rw [hbr] at h14
            clear hbr
            go_wp2_with fail
            refine h14.out.mono ?_
            rintro e w3 ⟨rfl, hb3⟩
            have HE3 := Aside0.mk (HE2.out.call hb3)
            clear hb3
            go_wp2_with fail
            refine HE3.out.works.mono ?_
            rintro e w4 ⟨rfl, hb4⟩
            have HE4 := Aside0.mk (HE3.out.call hb4)
            clear hb4
            go_wp2
            go_ret
            exact ⟨rfl, HE4.out.below⟩
          | false =>
            rw [hbr] at h14
            have hno := Aside0.mk (noBr_of hbr)
            clear hbr
            go_wp2_with fail
            refine h14.out.mono ?_
            rintro e w3 ⟨rfl, hb3⟩
            have HE3 := Aside0.mk (HE2.out.call hb3)
            replace hCt := Aside0.mk (Kd.C_below hCt.out hb3)
            clear hb3
            go_wp2_with fail
            refine (H.out.filled_call At ct w3 hCt.out hct.out).mono ?_
            rintro e w4 ⟨rfl, hb4⟩
            have HE4 := Aside0.mk (HE3.out.call hb4)
            clear hb4
            go_wp2_with fail
            refine (H.out.bind_call hno.out A0 c0 w4 HE4.out.tab HE4.out.pow HE4.out.row hc hl hn.out).mono ?_
            rintro e w5 ⟨rfl, hb5⟩
            have HE5 := Aside0.mk (HE4.out.call hb5)
            clear hb5
            clear h11 h13 h14 hts hno H hCt hct hlen hz hr hn
            generalize strOfNums (path false (sg ts) (Qof s)) = P at *
            generalize strOfNums (path true (sg ts) (Qof s)) = R at *
            go_wp2_with fail
            have hbx := heap_new w5 (.cells #[.string P, .string R, .string R, .string ⟨#[]⟩, .slice none 0 0, .int .i64 0] 33)
            have HE6 := Aside0.mk (HE5.out.call (below_alloc (Below.refl w5.heap.size w5) (.cells #[.string P, .string R, .string R, .string ⟨#[]⟩, .slice none 0 0, .int .i64 0] 33)))
            refine HE6.out.works.mono ?_
            rintro e w6 ⟨rfl, hb6⟩
            have HE7 := Aside0.mk (HE6.out.call hb6)
            replace hbx := (hb6.block _ (lt_of hbx)).trans hbx
            have z0 := cell_at hbx 0; have z2 := cell_at hbx 2; have z3 := cell_at hbx 3
            simp at z0 z2 z3
            clear hb6 hbx
            go_wp2
            go_ret
            exact ⟨rfl, HE7.out.below⟩
end H
end Go.Proofs.YtclmjmfcggkpaaaGreatDoor
