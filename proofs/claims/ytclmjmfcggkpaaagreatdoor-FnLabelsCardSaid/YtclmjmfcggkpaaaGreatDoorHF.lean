import Derived.Test.YtclmjmfcggkpaaaGreatDoorPXx39
import Derived.Test.YtclmjmfcggkpaaaGreatDoorHLabel
import Derived.Test.YtclmjmfcggkpaaaGreatDoorHC
import Derived.Test.YtclmjmfcggkpaaaGreatDoorHRp
set_option linter.unusedVariables false
set_option linter.unusedSimpArgs false
namespace Go.Proofs.YtclmjmfcggkpaaaGreatDoor
open Go.RowKit Go.Proofs.YtclmjmfcggkpaaaGreatDoorW.PrintWords Go.Proofs.YtclmjmfcggkpaaaGreatDoorW.PrintLast Go.Proofs.YtclmjmfcggkpaaaGreatDoorW.PrintMore
open PX
namespace H
/-! ### A path of literals and labels; where a label stands -/
inductive Part where
  | lit (b : List Int)
  | lab (n : List Int) (gr : Bool)
def tail (gr : Bool) : List Int := if gr then [43, 125] else [125]
/-- What a part reads as, with values given to some names. -/
def rp (esc : Bool) (σ : List Int → Option (List Int)) : Part → List Int
  | .lit b => 47 :: b
  | .lab n gr => 47 :: (match σ n with
    | some v => if esc then escB gr v else v
    | none => 123 :: (n ++ tail gr))
def path (esc : Bool) (σ : List Int → Option (List Int)) (Q : List Part) : List Int := Q.flatMap (rp esc σ)
def noBr (l : List Int) : Prop := ∀ c ∈ l, c ≠ 123 ∧ c ≠ 125
/-- The literals, and the values given, have no braces; the names are words. -/
structure Fine (σ : List Int → Option (List Int)) (Q : List Part) : Prop where
  lit : ∀ b, Part.lit b ∈ Q → noBr b
  val : ∀ n gr v, Part.lab n gr ∈ Q → σ n = some v → noBr v ∧ ∀ c ∈ v, 0 ≤ c ∧ c ≤ 255
  name : ∀ n gr, Part.lab n gr ∈ Q → wordL n = true
theorem Fine.tail {σ : List Int → Option (List Int)} {q : Part} {Q : List Part} (h : Fine σ (q :: Q)) : Fine σ Q :=
  ⟨fun b hb => h.lit b (List.mem_cons_of_mem _ hb), fun n gr v hn => h.val n gr v (List.mem_cons_of_mem _ hn), fun n gr hn => h.name n gr (List.mem_cons_of_mem _ hn)⟩
theorem word_ok {n : List Int} (h : wordL n = true) : ∀ c ∈ n, isLet c = true ∨ isDig c = true := by
  cases n with
  | nil => simp [wordL] at h
  | cons a r =>
    simp only [wordL, Bool.and_eq_true, wordFrom, List.all_eq_true, Bool.or_eq_true] at h
    intro c hc
    rcases List.mem_cons.1 hc with rfl | hc
    · exact .inl h.1.1
    · exact h.1.2 c hc
theorem word_ne {n : List Int} (h : wordL n = true) : n ≠ [] := by rintro rfl; simp [wordL] at h
theorem let_rng {c : Int} (h : isLet c = true ∨ isDig c = true) : c ≠ 123 ∧ c ≠ 125 ∧ c ≠ 43 ∧ c ≠ 47 ∧ 0 ≤ c ∧ c ≤ 255 := by
  simp only [isLet, isDig, Bool.or_eq_true, decide_eq_true_eq] at h
  omega
theorem escB_noBr (gr : Bool) (v : List Int) (hv : ∀ c ∈ v, 0 ≤ c ∧ c ≤ 255) : noBr (escB gr v) := by
  intro c hc
  have h := (esc_ok v hv gr c hc).1
  constructor
  · rintro rfl; revert h; decide
  · rintro rfl; revert h; decide
theorem rp_noBr {esc : Bool} {σ : List Int → Option (List Int)} {q : Part} {Q : List Part} (hF : Fine σ Q) (hq : q ∈ Q) (h : ∀ n gr, q = .lab n gr → σ n ≠ none) : ∀ c ∈ rp esc σ q, c ≠ 123 := by
  intro c hc
  cases q with
  | lit b =>
    rcases List.mem_cons.1 hc with rfl | hc
    · decide
    · exact (hF.lit b hq c hc).1
  | lab n gr =>
    obtain ⟨v, hv⟩ := Option.ne_none_iff_exists'.1 (h n gr rfl)
    obtain ⟨h1, h2⟩ := hF.val n gr v hq hv
    rcases List.mem_cons.1 hc with rfl | hc
    · decide
    · rw [hv] at hc
      cases esc
      · exact (h1 c hc).1
      · exact (escB_noBr gr v h2 c hc).1
/-- Two texts without c, followed by c, of which one begins the other, are one. -/
theorem pre_eq {c : Int} : ∀ {k m r : List Int}, (∀ x ∈ k, x ≠ c) → (∀ x ∈ m, x ≠ c) → (k ++ [c]) <+: (m ++ c :: r) → k = m := by
  intro k
  induction k with
  | nil =>
    intro m r hk hm h
    cases m with
    | nil => rfl
    | cons a m =>
      obtain ⟨t, ht⟩ := h
      simp only [List.nil_append, List.cons_append, List.cons.injEq] at ht
      exact absurd ht.1.symm (hm a (by simp))
  | cons b k ih =>
    intro m r hk hm h
    cases m with
    | nil =>
      obtain ⟨t, ht⟩ := h
      simp only [List.nil_append, List.cons_append, List.cons.injEq] at ht
      exact absurd ht.1 (hk b (by simp))
    | cons a m =>
      obtain ⟨t, ht⟩ := h
      simp only [List.cons_append, List.cons.injEq] at ht
      obtain ⟨rfl, ht⟩ := ht
      rw [ih (fun x hx => hk x (by simp [hx])) (fun x hx => hm x (by simp [hx])) ⟨t, ht⟩]
/-- An opening brace, and what has none behind, with a closing one: it is an open label. -/
theorem occ {esc : Bool} {σ : List Int → Option (List Int)} {k : List Int} (hk : ∀ c ∈ k, c ≠ 125) : ∀ (Q : List Part), Fine σ Q → ∀ i, (123 :: (k ++ [125])) <+: (path esc σ Q).drop i →
    ∃ Q1 n gr Q2, Q = Q1 ++ .lab n gr :: Q2 ∧ σ n = none ∧ n ++ (if gr then [43] else []) = k ∧ i = (path esc σ Q1).length + 1 := by
  intro Q
  induction Q with
  | nil => intro _ i h; simp [path] at h
  | cons q Q ih =>
    intro hF i h
    have e : path esc σ (q :: Q) = rp esc σ q ++ path esc σ Q := by simp [path]
    rw [e] at h
    rcases Nat.lt_or_ge i (rp esc σ q).length with hi | hi
    · rw [List.drop_append_of_le_length (by omega)] at h
      have hd : (rp esc σ q).drop i = (rp esc σ q)[i] :: (rp esc σ q).drop (i + 1) := List.drop_eq_getElem_cons hi
      have h0 : (rp esc σ q)[i] = 123 := by
        rw [hd] at h
        obtain ⟨t, ht⟩ := h
        simp only [List.cons_append, List.cons.injEq] at ht
        exact ht.1.symm
      by_cases hq : ∃ n gr, q = .lab n gr ∧ σ n = none
      · obtain ⟨n, gr, rfl, hn⟩ := hq
        have hw := hF.name n gr (by simp)
        have er : rp esc σ (.lab n gr) = 47 :: 123 :: (n ++ tail gr) := by simp [rp, hn]
        have hm : ∀ x ∈ n ++ tail gr, x ≠ 123 := by
          intro x hx
          rcases List.mem_append.1 hx with hx | hx
          · exact (let_rng (word_ok hw x hx)).1
          · unfold tail at hx; cases gr <;> simp at hx <;> omega
        have hi1 : i = 1 := by
          have h0' : (47 :: 123 :: (n ++ tail gr))[i]? = some 123 := by rw [← er, List.getElem?_eq_getElem hi, h0]
          match i, h0' with
          | 0, h0' => simp at h0'
          | 1, _ => rfl
          | i + 2, h0' =>
            simp only [List.getElem?_cons_succ] at h0'
            exact absurd rfl (hm _ (List.mem_of_getElem? h0'))
        subst hi1
        refine ⟨[], n, gr, Q, rfl, hn, ?_, by simp [path]⟩
        rw [er] at h
        simp only [List.drop_succ_cons, List.drop_zero, List.cons_append, List.cons_prefix_cons, true_and] at h
        have et : n ++ tail gr = (n ++ (if gr then [43] else [])) ++ [125] := by cases gr <;> simp [tail]
        rw [et, List.append_assoc, List.singleton_append] at h
        refine (pre_eq hk ?_ h).symm
        intro x hx
        rcases List.mem_append.1 hx with hx | hx
        · exact (let_rng (word_ok hw x hx)).2.1
        · cases gr <;> simp at hx; omega
      · exact absurd h0 (rp_noBr hF (by simp) (fun n gr e hn => hq ⟨n, gr, e, hn⟩) _ (List.getElem_mem _))
    · rw [List.drop_append, List.drop_of_length_le hi, List.nil_append] at h
      obtain ⟨Q1, n, gr, Q2, rfl, h1, h2, h3⟩ := ih hF.tail _ h
      refine ⟨q :: Q1, n, gr, Q2, rfl, h1, h2, ?_⟩
      simp only [path, List.flatMap_cons, List.length_append] at h3 ⊢
      omega
def names (Q : List Part) : List (List Int) := Q.filterMap (fun q => match q with | .lab n _ => some n | .lit _ => none)
theorem names_app (Q1 Q2 : List Part) : names (Q1 ++ Q2) = names Q1 ++ names Q2 := by simp [names]
theorem names_lab (n : List Int) (gr : Bool) (Q : List Part) : names (.lab n gr :: Q) = n :: names Q := by simp [names]
/-- Of distinct names each stands at one place. -/
theorem uniq {Q1 Q2 R1 R2 : List Part} {n : List Int} {g g' : Bool} (h : Q1 ++ .lab n g :: Q2 = R1 ++ .lab n g' :: R2) (hd : (names (Q1 ++ .lab n g :: Q2)).Nodup) : Q1 = R1 ∧ g = g' ∧ Q2 = R2 := by
  induction Q1 generalizing R1 with
  | nil =>
    cases R1 with
    | nil =>
      simp only [List.nil_append, List.cons.injEq, Part.lab.injEq, true_and] at h
      exact ⟨rfl, h.1, h.2⟩
    | cons r R1 =>
      simp only [List.nil_append, List.cons_append, List.cons.injEq] at h
      obtain ⟨rfl, rfl⟩ := h
      simp [names_lab, names_app] at hd
  | cons q Q1 ih =>
    cases R1 with
    | nil =>
      simp only [List.nil_append, List.cons_append, List.cons.injEq] at h
      obtain ⟨rfl, rfl⟩ := h
      simp [names_lab, names_app] at hd
    | cons r R1 =>
      simp only [List.cons_append, List.cons.injEq] at h
      obtain ⟨rfl, h⟩ := h
      have hd' : (names (Q1 ++ .lab n g :: Q2)).Nodup := by
        have e : names (q :: (Q1 ++ .lab n g :: Q2)) = names [q] ++ names (Q1 ++ .lab n g :: Q2) := names_app [q] _
        rw [List.cons_append, e] at hd
        exact (List.nodup_append.1 hd).2.1
      obtain ⟨rfl, rfl, rfl⟩ := ih h hd'
      exact ⟨rfl, rfl, rfl⟩
end H
end Go.Proofs.YtclmjmfcggkpaaaGreatDoor
set_option linter.unusedVariables false
set_option linter.unusedSimpArgs false
namespace Go.Proofs.YtclmjmfcggkpaaaGreatDoor
open Go.RowKit Go.Proofs.YtclmjmfcggkpaaaGreatDoorW.PrintWords Go.Proofs.YtclmjmfcggkpaaaGreatDoorW.PrintLast Go.Proofs.YtclmjmfcggkpaaaGreatDoorW.PrintMore
open PX
namespace H
theorem bytes_ext (s : ByteArray) (a b : Nat) : bytesOf (s.extract a b) = ((bytesOf s).drop a).take (b - a) := by
  have e : (s.extract a b).data.toList = (s.data.toList.drop a).take (b - a) := by simp [List.extract_eq_take_drop]
  unfold bytesOf
  rw [e, List.map_take, List.map_drop]
theorem bytes_inj {s t : ByteArray} (h : bytesOf s = bytesOf t) : s = t := by
  rw [← strOf_bytesOf s, ← strOf_bytesOf t, h]
theorem toList_iff (s t : ByteArray) : s.toList = t.toList ↔ bytesOf s = bytesOf t := by
  rw [ByteArray.toList_eq, ByteArray.toList_eq]
  constructor
  · intro h; unfold bytesOf; rw [h]
  · intro h; rw [bytes_inj h]
theorem index_at {s t : ByteArray} (hs : s.size ≤ 1099511627776) {r : Nat} (hr : r + t.size ≤ s.size) (h : ((bytesOf s).drop r).take t.size = bytesOf t)
    (hn : ∀ i, i < r → ((bytesOf s).drop i).take t.size ≠ bytesOf t) : ∀ n i, i + n = r → ∀ F, n + 1 ≤ F → smhttp_index.l0 F s t (i : Int) = some (r : Int) := by
  have key : ∀ i : Nat, i ≤ r → (smhttp_index.l0 (0 + 1) s t (i : Int) = smhttp_index.l0 (0 + 1) s t (i : Int)) ∧ wrap64 ((i : Int) + (t.size : Int)) = ((i + t.size : Nat) : Int) ∧ wrap64 ((i : Int) + 1) = ((i + 1 : Nat) : Int) := by
    intro i hi
    refine ⟨rfl, ?_, ?_⟩ <;> unfold wrap64 <;> omega
  intro n
  induction n with
  | zero =>
    intro i hi F hF
    obtain rfl : i = r := by omega
    match F, hF with
    | F + 1, _ =>
      obtain ⟨_, e1, _⟩ := key i (Nat.le_refl _)
      rw [smhttp_index.l0, e1, if_pos (by omega), if_pos (by omega), if_pos (by omega), if_pos]
      rw [toList_iff, bytes_ext, Int.toNat_natCast, Int.toNat_natCast, show i + t.size - i = t.size from by omega]
      exact h
  | succ n ih =>
    intro i hi F hF
    match F, hF with
    | F + 1, hF =>
      obtain ⟨_, e1, e2⟩ := key i (by omega)
      rw [smhttp_index.l0, e1, if_pos (by omega), if_pos (by omega), if_pos (by omega), if_neg, e2]
      · exact ih (i + 1) (by omega) F (by omega)
      · rw [toList_iff, bytes_ext, Int.toNat_natCast, Int.toNat_natCast, show i + t.size - i = t.size from by omega]
        exact hn i (by omega)
theorem index_no {s t : ByteArray} (hs : s.size ≤ 1099511627776) (ht : t.size ≤ 1099511627776)
    (hn : ∀ i, i + t.size ≤ s.size → ((bytesOf s).drop i).take t.size ≠ bytesOf t) : ∀ n i, i + n = s.size + 1 → ∀ F, n + 1 ≤ F → smhttp_index.l0 F s t (i : Int) = some (-1) := by
  intro n
  induction n with
  | zero =>
    intro i hi F hF
    match F, hF with
    | F + 1, _ =>
      have e1 : wrap64 ((i : Int) + (t.size : Int)) = ((i + t.size : Nat) : Int) := by unfold wrap64; omega
      rw [smhttp_index.l0, e1, if_neg (by omega)]
  | succ n ih =>
    intro i hi F hF
    match F, hF with
    | F + 1, hF =>
      have e1 : wrap64 ((i : Int) + (t.size : Int)) = ((i + t.size : Nat) : Int) := by unfold wrap64; omega
      have e2 : wrap64 ((i : Int) + 1) = ((i + 1 : Nat) : Int) := by unfold wrap64; omega
      rw [smhttp_index.l0, e1]
      by_cases hc : i + t.size ≤ s.size
      · rw [if_pos (by omega), if_pos (by omega), if_pos (by omega), if_neg, e2]
        · exact ih (i + 1) (by omega) F (by omega)
        · rw [toList_iff, bytes_ext, Int.toNat_natCast, Int.toNat_natCast, show i + t.size - i = t.size from by omega]
          exact hn i hc
      · rw [if_neg (by omega)]
def rng (l : List Int) : Prop := ∀ c ∈ l, 0 ≤ c ∧ c ≤ 255
theorem pre_take {a l : List Int} : a <+: l ↔ l.take a.length = a := by
  constructor
  · rintro ⟨t, h⟩
    rw [← h, List.take_left' rfl]
  · intro h
    refine ⟨l.drop a.length, ?_⟩
    have := List.take_append_drop a.length l
    rw [h] at this
    exact this
theorem idx_some {p sub : List Int} (hp : rng p) (hs : rng sub) (hl : p.length ≤ 1099511627776) {r : Nat} (h : sub <+: p.drop r) (hn : ∀ i, i < r → ¬ sub <+: p.drop i) (hr : r + sub.length ≤ p.length) :
    ∃ k, smhttp_index.f k (strOfNums p) (strOfNums sub) = some (r : Int) := by
  have e1 := bytesOf_strOf p hp
  have e2 := bytesOf_strOf sub hs
  have z1 : (strOfNums p).size = p.length := strOfNums_size p
  have z2 : (strOfNums sub).size = sub.length := strOfNums_size sub
  refine ⟨r + 1, ?_⟩
  refine index_at (by omega) (by omega) (by rw [e1, e2, z2]; exact pre_take.1 h) (fun i hi => ?_) r 0 (by omega) _ (by omega)
  rw [e1, e2, z2]
  exact fun h' => hn i hi (pre_take.2 h')
theorem idx_none {p sub : List Int} (hp : rng p) (hs : rng sub) (hl : p.length ≤ 1099511627776) (hl2 : sub.length ≤ 1099511627776) (hn : ∀ i, ¬ sub <+: p.drop i) :
    ∃ k, smhttp_index.f k (strOfNums p) (strOfNums sub) = some (-1) := by
  have e1 := bytesOf_strOf p hp
  have e2 := bytesOf_strOf sub hs
  have z1 : (strOfNums p).size = p.length := strOfNums_size p
  have z2 : (strOfNums sub).size = sub.length := strOfNums_size sub
  refine ⟨p.length + 2, ?_⟩
  refine index_no (by omega) (by omega) (fun i hi => ?_) (p.length + 1) 0 (by omega) _ (by omega)
  rw [e1, e2, z2]
  exact fun h' => hn i (pre_take.2 h')
def upd (σ : List Int → Option (List Int)) (n v : List Int) : List Int → Option (List Int) := fun m => if m = n then some v else σ m
theorem rng_path {esc : Bool} {σ : List Int → Option (List Int)} {Q : List Part} (hF : Fine σ Q) (hl : ∀ b, Part.lit b ∈ Q → rng b) : rng (path esc σ Q) := by
  intro c hc
  obtain ⟨q, hq, hc⟩ := List.mem_flatMap.1 hc
  cases q with
  | lit b =>
    rcases List.mem_cons.1 hc with rfl | hc
    · omega
    · exact hl b hq c hc
  | lab n gr =>
    rcases List.mem_cons.1 hc with rfl | hc
    · omega
    · cases hσ : σ n with
      | none =>
        rw [hσ] at hc
        rcases List.mem_cons.1 hc with rfl | hc
        · omega
        · rcases List.mem_append.1 hc with hc | hc
          · have := let_rng (word_ok (hF.name n gr hq) c hc); omega
          · unfold tail at hc; cases gr <;> simp at hc <;> omega
      | some v =>
        rw [hσ] at hc
        obtain ⟨h1, h2⟩ := hF.val n gr v hq hσ
        cases esc
        · exact h2 c hc
        · exact (esc_ok v h2 gr c hc).2
theorem path_upd {esc : Bool} {σ : List Int → Option (List Int)} {Q : List Part} {n v : List Int} (h : n ∉ names Q) : path esc (upd σ n v) Q = path esc σ Q := by
  induction Q with
  | nil => rfl
  | cons q Q ih =>
    have hq : rp esc (upd σ n v) q = rp esc σ q := by
      cases q with
      | lit b => rfl
      | lab m gr =>
        have : m ≠ n := by rintro rfl; exact h (by simp [names])
        simp [rp, upd, this]
    have hQ : n ∉ names Q := by
      intro hm; apply h
      rw [show q :: Q = [q] ++ Q from rfl, names_app]; exact List.mem_append_right _ hm
    simp only [path, List.flatMap_cons] at ih ⊢
    rw [hq, ih hQ]
theorem idx_path {esc : Bool} {σ : List Int → Option (List Int)} {Q1 Q2 : List Part} {gr : Bool} {key val : ByteArray} (hF : Fine σ (Q1 ++ .lab (bytesOf key) gr :: Q2)) (hl : ∀ b, Part.lit b ∈ Q1 ++ .lab (bytesOf key) gr :: Q2 → rng b)
    (hd : (names (Q1 ++ .lab (bytesOf key) gr :: Q2)).Nodup) (hσ : σ (bytesOf key) = none) (hk : key.size ≤ 1000) (hz : (path esc σ (Q1 ++ .lab (bytesOf key) gr :: Q2)).length ≤ 1099511627776) :
    Idx (path esc σ (Q1 ++ .lab (bytesOf key) gr :: Q2)) key gr ((path esc σ Q1).length + 1) ∧
      rep (path esc σ (Q1 ++ .lab (bytesOf key) gr :: Q2)) key gr ((path esc σ Q1).length + 1) (vesc gr esc val) = path esc (upd σ (bytesOf key) (bytesOf val)) (Q1 ++ .lab (bytesOf key) gr :: Q2) := by
  have hw := hF.name (bytesOf key) gr (by simp)
  have hR := rng_path (esc := esc) hF hl
  have hkr : rng (bytesOf key) := fun c hc => bytesOf_range key c hc
  have hkl := bytesOf_length key
  have ep : path esc σ (Q1 ++ .lab (bytesOf key) gr :: Q2) = path esc σ Q1 ++ (47 :: 123 :: (bytesOf key ++ tail gr)) ++ path esc σ Q2 := by
    simp [path, rp, hσ]
  have hk43 : ∀ x ∈ bytesOf key, x ≠ 125 ∧ x ≠ 43 := fun x hx => by have := let_rng (word_ok hw x hx); omega
  have hoc : ∀ k : List Int, (∀ c ∈ k, c ≠ 125) → ∀ i, (123 :: (k ++ [125])) <+: (path esc σ (Q1 ++ .lab (bytesOf key) gr :: Q2)).drop i → ∃ R1 n g R2, Q1 ++ .lab (bytesOf key) gr :: Q2 = R1 ++ .lab n g :: R2 ∧ n ++ (if g then [43] else []) = k ∧ i = (path esc σ R1).length + 1 := by
    intro k hk i h
    obtain ⟨R1, n, g, R2, e, _, h2, h3⟩ := occ hk _ hF i h
    exact ⟨R1, n, g, R2, e, h2, h3⟩
  have hpre : (123 :: (bytesOf key ++ tail gr)) <+: (path esc σ (Q1 ++ .lab (bytesOf key) gr :: Q2)).drop ((path esc σ Q1).length + 1) := by
    rw [ep, List.append_assoc, List.drop_append, List.drop_of_length_le (by omega), List.nil_append, show (path esc σ Q1).length + 1 - (path esc σ Q1).length = 1 from by omega]
    exact ⟨path esc σ Q2, by simp⟩
  have hlen := congrArg List.length ep
  simp only [List.length_append, List.length_cons] at hlen
  have hone : ∀ (g : Bool) (n : List Int) (R1 R2 : List Part), Q1 ++ .lab (bytesOf key) gr :: Q2 = R1 ++ .lab n g :: R2 → n ++ (if g then [43] else []) = bytesOf key ++ (if gr then [43] else []) → R1 = Q1 := by
    intro g n R1 R2 e h
    have hn : wordL n = true := hF.name n g (by rw [e]; simp)
    have hn43 : ∀ x ∈ n, x ≠ 43 := fun x hx => (let_rng (word_ok hn x hx)).2.2.1
    have : n = bytesOf key := by
      cases g <;> cases gr
      · simpa using h
      · simp only [Bool.false_eq_true, if_false, if_true, List.append_nil] at h
        exact absurd rfl (hn43 43 (by rw [h]; simp))
      · simp only [Bool.false_eq_true, if_false, if_true, List.append_nil] at h
        exact absurd rfl ((hk43 43 (by rw [← h]; simp)).2)
      · simp only [if_true] at h
        exact List.append_cancel_right h
    subst this
    exact (uniq e hd).1.symm
  constructor
  · cases gr with
    | false =>
      refine ⟨?_, by simp [tail] at hlen; omega⟩
      refine idx_some hR (fun c hc => by rcases List.mem_cons.1 hc with rfl | hc; omega; rcases List.mem_append.1 hc with hc | hc; exact hkr c hc; simp at hc; omega) hz hpre (fun i hi h => ?_) (by simp [tail] at hlen; simp; omega)
      obtain ⟨R1, n, g, R2, e, h2, h3⟩ := hoc (bytesOf key) (fun c hc => (hk43 c hc).1) i h
      have := hone g n R1 R2 e (by simpa using h2)
      subst this
      omega
    | true =>
      refine ⟨?_, ?_, by simp [tail] at hlen; omega⟩
      · refine idx_none hR (fun c hc => by rcases List.mem_cons.1 hc with rfl | hc; omega; rcases List.mem_append.1 hc with hc | hc; exact hkr c hc; simp at hc; omega) hz (by simp; omega) (fun i h => ?_)
        obtain ⟨R1, n, g, R2, e, h2, h3⟩ := hoc (bytesOf key) (fun c hc => (hk43 c hc).1) i h
        cases g with
        | true => exact absurd rfl ((hk43 43 (by rw [← h2]; simp)).2)
        | false =>
          simp only [Bool.false_eq_true, if_false, List.append_nil] at h2
          subst h2
          have := (uniq e hd).2.1
          simp at this
      · have e0 : (123 :: (bytesOf key ++ [43, 125])) = 123 :: ((bytesOf key ++ [43]) ++ [125]) := by simp
        rw [e0]
        refine idx_some hR (fun c hc => by rcases List.mem_cons.1 hc with rfl | hc; omega; rcases List.mem_append.1 hc with hc | hc; (rcases List.mem_append.1 hc with hc | hc; exact hkr c hc; simp at hc; omega); simp at hc; omega) hz (by rw [← e0]; exact hpre) (fun i hi h => ?_) (by simp [tail] at hlen; simp; omega)
        obtain ⟨R1, n, g, R2, e, h2, h3⟩ := hoc (bytesOf key ++ [43]) (fun c hc => by rcases List.mem_append.1 hc with hc | hc; exact (hk43 c hc).1; simp at hc; omega) i h
        have := hone g n R1 R2 e (by simpa using h2)
        subst this
        omega
  · have hnd := hd
    rw [names_app, names_lab] at hnd
    obtain ⟨hd1, hd2, hd3⟩ := List.nodup_append.1 hnd
    have hn1 : bytesOf key ∉ names Q1 := fun h => hd3 _ h _ (by simp) rfl
    have hn2 : bytesOf key ∉ names Q2 := (List.nodup_cons.1 hd2).1
    have er : path esc (upd σ (bytesOf key) (bytesOf val)) (Q1 ++ .lab (bytesOf key) gr :: Q2) = path esc σ Q1 ++ (47 :: vesc gr esc val) ++ path esc σ Q2 := by
      have h1 := path_upd (esc := esc) (σ := σ) (v := bytesOf val) hn1
      have h2 := path_upd (esc := esc) (σ := σ) (v := bytesOf val) hn2
      simp only [path] at h1 h2 ⊢
      rw [List.flatMap_append, List.flatMap_cons, h1, h2]
      simp [rp, upd, vesc]
    rw [er, rep, ep]
    have t1 : (path esc σ Q1 ++ (47 :: 123 :: (bytesOf key ++ tail gr)) ++ path esc σ Q2).take ((path esc σ Q1).length + 1) = path esc σ Q1 ++ [47] := by
      rw [List.append_assoc, List.take_append, List.take_of_length_le (by omega), show (path esc σ Q1).length + 1 - (path esc σ Q1).length = 1 from by omega]
      rfl
    have t2 : (path esc σ Q1 ++ (47 :: 123 :: (bytesOf key ++ tail gr)) ++ path esc σ Q2).drop ((path esc σ Q1).length + 1 + (key.size + if gr = true then 3 else 2)) = path esc σ Q2 := by
      have hq : (path esc σ Q1 ++ (47 :: 123 :: (bytesOf key ++ tail gr))).length = (path esc σ Q1).length + 1 + (key.size + if gr = true then 3 else 2) := by
        cases gr <;> simp [tail, hkl] <;> omega
      rw [← hq, List.drop_left']
      rfl
    rw [t1, t2]
    simp
end H
end Go.Proofs.YtclmjmfcggkpaaaGreatDoor
