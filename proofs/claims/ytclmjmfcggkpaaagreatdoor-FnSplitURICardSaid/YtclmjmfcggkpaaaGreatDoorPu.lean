import Derived.Test.YtclmjmfcggkpaaaGreatDoorHUrl
namespace Go.Proofs.YtclmjmfcggkpaaaGreatDoor
open Go.RowKit Go.Proofs.YtclmjmfcggkpaaaGreatDoorW.PrintWords Go.Proofs.YtclmjmfcggkpaaaGreatDoorW.PrintLast Go.Proofs.YtclmjmfcggkpaaaGreatDoorW.PrintMore
namespace H
/-! ### Taking escapes away, plainly -/
def unh (c : Int) : Int := 9 * (c / 64) + c % 16
def unescL : List Int → Option (List Int)
  | [] => some []
  | c :: r =>
    if c = 37 then
      match r with
      | a :: b :: r' => if hexB a && hexB b then (unescL r').map (fun u => (16 * unh a + unh b) :: u) else none
      | _ => none
    else (unescL r).map (fun u => c :: u)
theorem unescL_cons (c : Int) (r : List Int) : unescL (c :: r) = if c = 37 then (match r with | a :: b :: r' => if hexB a && hexB b then (unescL r').map (fun u => (16 * unh a + unh b) :: u) else none | _ => none) else (unescL r).map (fun u => c :: u) := by
  rw [unescL.eq_def]
theorem unescL_pct {l u : List Int} {k : Nat} (h : unescL (l.drop k) = some u) (hk : k < l.length) (hc : l[k] = 37) :
    ∃ (h2 : k + 2 < l.length) (u' : List Int), hexB (l[k + 1]'(by omega)) = true ∧ hexB (l[k + 2]) = true ∧ unescL (l.drop (k + 3)) = some u' ∧ u = (16 * unh (l[k + 1]'(by omega)) + unh l[k + 2]) :: u' := by
  rw [List.drop_eq_getElem_cons hk, unescL_cons, if_pos hc] at h
  by_cases h2 : k + 2 < l.length
  · rw [List.drop_eq_getElem_cons (show k + 1 < l.length by omega), List.drop_eq_getElem_cons (show k + 1 + 1 < l.length by omega)] at h
    simp only at h
    split at h
    · rename_i hx
      rw [Bool.and_eq_true] at hx
      obtain ⟨u', h', rfl⟩ := Option.map_eq_some_iff.1 h
      exact ⟨h2, u', hx.1, hx.2, h', rfl⟩
    · cases h
  · exfalso
    by_cases h1 : k + 1 < l.length
    · rw [List.drop_eq_getElem_cons h1, List.drop_eq_nil_of_le (show l.length ≤ k + 1 + 1 by omega)] at h
      cases h
    · rw [List.drop_eq_nil_of_le (by omega)] at h
      cases h
theorem unescL_plain {l u : List Int} {k : Nat} (h : unescL (l.drop k) = some u) (hk : k < l.length) (hc : l[k] ≠ 37) :
    ∃ u' : List Int, unescL (l.drop (k + 1)) = some u' ∧ u = l[k] :: u' := by
  rw [List.drop_eq_getElem_cons hk, unescL_cons, if_neg hc] at h
  obtain ⟨u', h', rfl⟩ := Option.map_eq_some_iff.1 h
  exact ⟨u', h', rfl⟩
theorem unescL_none (l : List Int) (h : ∀ c ∈ l, c ≠ 37) : unescL l = some l := by
  induction l with
  | nil => rfl
  | cons c r ih =>
    rw [unescL_cons, if_neg (h c (by simp)), ih (fun x hx => h x (by simp [hx]))]
    rfl
theorem unh_hex (c : Int) (h0 : 0 ≤ c) (h1 : c ≤ 255) (h : hexB c = true) : 0 ≤ unh c ∧ unh c ≤ 15 := by
  have : ∀ n : Nat, n < 256 → hexB (n : Int) = true → 0 ≤ unh (n : Int) ∧ unh (n : Int) ≤ 15 := by decide +kernel
  obtain ⟨n, rfl⟩ := Int.eq_ofNat_of_zero_le h0
  exact this n (by omega) h
theorem unescL_range : ∀ (n : Nat) (l u : List Int), l.length ≤ n → (∀ c ∈ l, 0 ≤ c ∧ c ≤ 255) → unescL l = some u → (∀ c ∈ u, 0 ≤ c ∧ c ≤ 255) ∧ u.length ≤ l.length := by
  intro n
  induction n with
  | zero =>
    intro l u hl _ h
    obtain rfl : l = [] := List.eq_nil_of_length_eq_zero (by omega)
    cases h
    simp
  | succ n ih =>
    intro l u hl hr h
    cases l with
    | nil => cases h; simp
    | cons c r =>
      rw [unescL_cons] at h
      split at h
      · split at h
        · rename_i a b r' 
          split at h
          · rename_i hx
            rw [Bool.and_eq_true] at hx
            obtain ⟨u', h', rfl⟩ := Option.map_eq_some_iff.1 h
            simp only [List.length_cons] at hl ⊢
            have hi := ih r' u' (by omega) (fun x hx => hr x (by simp [hx])) h'
            have ha := hr a (by simp)
            have hb := hr b (by simp)
            have h1 := unh_hex a ha.1 ha.2 hx.1
            have h2 := unh_hex b hb.1 hb.2 hx.2
            refine ⟨fun x hxm => ?_, by omega⟩
            rcases List.mem_cons.1 hxm with rfl | hm
            · omega
            · exact hi.1 x hm
          · cases h
        · cases h
      · obtain ⟨u', h', rfl⟩ := Option.map_eq_some_iff.1 h
        simp only [List.length_cons] at hl ⊢
        have hi := ih r u' (by omega) (fun x hx => hr x (by simp [hx])) h'
        refine ⟨fun x hxm => ?_, by omega⟩
        rcases List.mem_cons.1 hxm with rfl | hm
        · exact hr _ (by simp)
        · exact hi.1 x hm
theorem hexd_back (n : Int) (h0 : 0 ≤ n) (h1 : n < 16) : hexB (hexd n) = true ∧ unh (hexd n) = n := by
  have : ∀ m : Nat, m < 16 → hexB (hexd (m : Int)) = true ∧ unh (hexd (m : Int)) = (m : Int) := by decide +kernel
  obtain ⟨m, rfl⟩ := Int.eq_ofNat_of_zero_le h0
  exact this m (by omega)
/-- What has been escaped is told back. -/
theorem unesc_esc (sl : Bool) (l : List Int) (h : ∀ c ∈ l, 0 ≤ c ∧ c ≤ 255) : unescL (escB sl l) = some l := by
  induction l with
  | nil => rfl
  | cons c r ih =>
    have hc := h c (by simp)
    have hi := ih (fun x hx => h x (by simp [hx]))
    rw [show escB sl (c :: r) = esc1 sl c ++ escB sl r from by simp [escB]]
    unfold esc1
    split
    · rename_i hu
      have h37 : c ≠ 37 := by
        rintro rfl
        revert hu
        cases sl <;> decide
      rw [List.singleton_append, unescL_cons, if_neg h37, hi]
      rfl
    · have h1 := hexd_back (c / 16) (by omega) (by omega)
      have h2 := hexd_back (c % 16) (by omega) (by omega)
      simp only [List.cons_append, List.nil_append]
      rw [unescL_cons, if_pos rfl]
      simp only [h1.1, h2.1, Bool.and_self, if_true, hi, Option.map_some, h1.2, h2.2]
      congr 2
      omega
theorem esc_ok (l : List Int) (h : ∀ c ∈ l, 0 ≤ c ∧ c ≤ 255) (sl : Bool) : ∀ c ∈ escB sl l, pathOk c = true ∧ 0 ≤ c ∧ c ≤ 255 := by
  intro c hc
  rw [escB, List.mem_flatMap] at hc
  obtain ⟨x, hx, hc⟩ := hc
  have hr := h x hx
  have hd : ∀ m : Nat, m < 16 → pathOk (hexd (m : Int)) = true ∧ 0 ≤ hexd (m : Int) ∧ hexd (m : Int) ≤ 255 := by decide +kernel
  have hd' : ∀ m : Int, 0 ≤ m → m < 16 → pathOk (hexd m) = true ∧ 0 ≤ hexd m ∧ hexd m ≤ 255 := by
    intro m h0 h1
    obtain ⟨k, rfl⟩ := Int.eq_ofNat_of_zero_le h0
    exact hd k (by omega)
  unfold esc1 at hc
  split at hc
  · rename_i hu
    simp only [List.mem_singleton] at hc
    subst hc
    refine ⟨?_, hr⟩
    unfold pathOk
    rw [Bool.or_eq_true] at hu
    rcases hu with hu | hu
    · rw [hu]; rfl
    · rw [Bool.and_eq_true] at hu; rw [hu.2]; simp
  · simp only [List.mem_cons, List.not_mem_nil, or_false] at hc
    rcases hc with rfl | rfl | rfl
    · decide
    · exact hd' _ (by omega) (by omega)
    · exact hd' _ (by omega) (by omega)
end H
end Go.Proofs.YtclmjmfcggkpaaaGreatDoor
