import Derived.Test.YtclmjmfcggkpaaaGreatDoorHBd
import Derived.Test.YtclmjmfcggkpaaaGreatDoorPXx186
import Derived.Test.YtclmjmfcggkpaaaGreatDoorPXx187
set_option linter.unusedVariables false
set_option linter.unusedSimpArgs false
namespace Go.Proofs.YtclmjmfcggkpaaaGreatDoor
open Go.RowKit Go.Proofs.YtclmjmfcggkpaaaGreatDoorW.PrintWords Go.Proofs.YtclmjmfcggkpaaaGreatDoorW.PrintLast Go.Proofs.YtclmjmfcggkpaaaGreatDoorW.PrintMore
open PX
namespace H
/-- i is the first place of the byte c; the text's length if it has none. -/
structure Fst (s : ByteArray) (c : Int) (i : Nat) : Prop where
  le : i ≤ s.size
  no : ∀ j : Nat, j < i → bt s j ≠ c
  at_ : i < s.size → bt s i = c
theorem fst_ex (s : ByteArray) (c : Int) : ∃ i, Fst s c i := by
  have : ∀ (n k : Nat), k + n = s.size → (∀ j : Nat, j < k → bt s j ≠ c) → ∃ i, Fst s c i := by
    intro n
    induction n with
    | zero => intro k hk hn; exact ⟨k, by omega, hn, fun h => by omega⟩
    | succ n ih =>
      intro k hk hn
      by_cases h : bt s k = c
      · exact ⟨k, by omega, hn, fun _ => h⟩
      · refine ih (k + 1) (by omega) (fun j hj => ?_)
        rcases Nat.lt_or_ge j k with h1 | h1
        · exact hn j h1
        · obtain rfl : j = k := by omega
          exact h
  exact this s.size 0 (by omega) (fun j hj => by omega)
def cutR (s : ByteArray) (i : Nat) : ByteArray × ByteArray × Bool := if i < s.size then (s.extract 0 i, s.extract (i + 1) s.size, true) else (s, ⟨#[]⟩, false)
theorem wr1 (k : Nat) (h : k ≤ 9223372036854775806) : wrap64 ((k : Int) + 1) = ((k + 1 : Nat) : Int) := by unfold wrap64; omega
theorem cutS_eq {s : ByteArray} {c : Int} {i : Nat} (h : Fst s c i) (hs : s.size ≤ 2147483647) : ∀ n k, k + n = i → ∀ F, n + 1 ≤ F → spec_cut.l0 F s c (s.size : Int) (k : Int) = some (cutR s i) := by
  have hle := h.le
  intro n
  induction n with
  | zero =>
    intro k hk F hF
    obtain rfl : k = i := by omega
    match F, hF with
    | F + 1, _ =>
      rw [spec_cut.l0]
      by_cases hlt : k < s.size
      · rw [if_pos (by omega), if_pos (by omega), if_pos (by omega), if_pos (h.at_ hlt), if_pos (by omega), wr1 k (by omega), if_pos (by omega), if_pos (by omega), cutR, if_pos hlt]
        rfl
      · rw [if_neg (by omega), cutR, if_neg hlt]
  | succ n ih =>
    intro k hk F hF
    match F, hF with
    | F + 1, hF =>
      rw [spec_cut.l0, if_pos (by omega), if_pos (by omega), if_pos (by omega), if_neg (h.no k (by omega)), wr1 k (by omega)]
      exact ih (k + 1) (by omega) F (by omega)
theorem ext1 (s : ByteArray) (k : Nat) (b : UInt8) (h : k < s.size) : (s.extract k (k + 1)).toList = (⟨#[b]⟩ : ByteArray).toList ↔ bt s k = (b.toNat : Int) := by
  have hb : bt s k = ((s[k]'h).toNat : Int) := by simp [bt, h]
  rw [hb, ByteArray.toList_eq, ByteArray.toList_eq]
  have hl : k < s.data.toList.length := by simpa using h
  have e : (s.extract k (k + 1)).data.toList = [s[k]'h] := by
    have : (s.extract k (k + 1)).data.toList = (s.data.toList.drop k).take 1 := by
      simp [List.extract_eq_take_drop]
    rw [this, List.drop_eq_getElem_cons hl]
    rfl
  rw [e]
  constructor
  · intro h
    have : s[k] = b := by simpa using h
    rw [this]
  · intro h
    have : s[k] = b := UInt8.toNat.inj (by omega)
    rw [this]
theorem cutI_eq {s : ByteArray} {b : UInt8} {i : Nat} (h : Fst s (b.toNat : Int) i) (hs : s.size ≤ 2147483647) : ∀ n k, k + n = i → ∀ F, n + 1 ≤ F → awsrestjson_cut.l0 F s ⟨#[b]⟩ (k : Int) = some (if i < s.size then (i : Int) else -1) := by
  have hle := h.le
  have h1 : ((⟨#[b]⟩ : ByteArray).size : Int) = 1 := rfl
  intro n
  induction n with
  | zero =>
    intro k hk F hF
    obtain rfl : k = i := by omega
    match F, hF with
    | F + 1, _ =>
      rw [awsrestjson_cut.l0, h1, wr1 k (by omega)]
      by_cases hlt : k < s.size
      · rw [if_pos (by omega), if_pos (by omega), if_pos (by omega), Int.toNat_natCast, Int.toNat_natCast, if_pos ((ext1 s k b hlt).2 (h.at_ hlt)), if_pos hlt]
      · rw [if_neg (by omega), if_neg hlt]
  | succ n ih =>
    intro k hk F hF
    match F, hF with
    | F + 1, hF =>
      rw [awsrestjson_cut.l0, h1, wr1 k (by omega), if_pos (by omega), if_pos (by omega), if_pos (by omega), Int.toNat_natCast, Int.toNat_natCast, if_neg (fun e => h.no k (by omega) ((ext1 s k b (by omega)).1 e))]
      exact ih (k + 1) (by omega) F (by omega)
/-- What is told of an error code. -/
def errT (t : ByteArray) (j : Nat) : ByteArray := if j < t.size then t.extract (j + 1) t.size else t
theorem cutR_le (s : ByteArray) (i : Nat) : (cutR s i).1.size ≤ s.size := by
  unfold cutR
  split
  · simp only [ByteArray.size_extract]; omega
  · exact Nat.le_refl _
theorem errS_eq {s : ByteArray} {i j : Nat} (hs : s.size ≤ 2147483647) (h1 : Fst s 58 i) (h2 : Fst (cutR s i).1 35 j) : spec_ErrorCode.f (s.size + 1) s = some (errT (cutR s i).1 j) := by
  have ht := cutR_le s i
  have hl1 := h1.le; have hl2 := h2.le
  unfold spec_ErrorCode.f spec_cut.f
  have e1 := cutS_eq h1 hs i 0 (by omega) (s.size + 1) (by omega)
  have e2 := cutS_eq h2 (by omega) j 0 (by omega) (s.size + 1) (by omega)
  rw [show ((0 : Nat) : Int) = 0 from rfl] at e1 e2
  rw [e1, Option.bind_some, e2, Option.bind_some]
  generalize (cutR s i).1 = t at *
  unfold errT cutR
  by_cases hj : j < t.size
  · rw [if_pos hj, if_pos hj, if_pos rfl]
  · rw [if_neg hj, if_neg hj, if_neg (by simp)]
theorem errI_eq {s : ByteArray} {i j : Nat} (hs : s.size ≤ 2147483647) (h1 : Fst s 58 i) (h2 : Fst (cutR s i).1 35 j) : impl_ErrorCode.f (s.size + 2) s = some (errT (cutR s i).1 j) := by
  have ht := cutR_le s i
  have hl1 := h1.le; have hl2 := h2.le
  have e1 := cutI_eq (b := 58) h1 hs i 0 (by omega) (s.size + 2) (by omega)
  have e2 := cutI_eq (b := 35) h2 (by omega) j 0 (by omega) (s.size + 1) (by omega)
  rw [show ((0 : Nat) : Int) = 0 from rfl] at e1 e2
  have hj0 : awsrestjson_SanitizeErrorCode.j0 (s.size + 2) (cutR s i).1 = some (errT (cutR s i).1 j) := by
    generalize (cutR s i).1 = t at *
    rw [awsrestjson_SanitizeErrorCode.j0, awsrestjson_cut.f, e2, Option.bind_some]
    unfold errT
    by_cases hj : j < t.size
    · rw [if_pos hj, if_pos hj, if_pos (by omega), Option.bind_some, wr1 j (by omega), if_pos (by omega), if_pos (by omega)]
      rfl
    · rw [if_neg hj, if_neg hj, if_neg (by omega)]
  unfold impl_ErrorCode.f awsrestjson_SanitizeErrorCode.f awsrestjson_cut.f
  rw [e1, Option.bind_some]
  by_cases hi : i < s.size
  · have hc : (cutR s i).1 = s.extract 0 i := by unfold cutR; rw [if_pos hi]
    rw [hc] at hj0 ⊢
    rw [if_pos hi, if_pos (by omega), Option.bind_some, if_pos (by omega), if_pos (by omega), Int.toNat_natCast, hj0]
    rfl
  · have hc : (cutR s i).1 = s := by unfold cutR; rw [if_neg hi]
    rw [hc] at hj0 ⊢
    rw [if_neg hi, if_neg (by omega), hj0]
    rfl
theorem drawn_below {w w' : World} (h : Drawn0 w w') : Below w.heap.size w w' := by
  obtain ⟨n, rfl⟩ := h
  exact pw_below_drewN (Below.refl _ _) n
set_option maxHeartbeats 400000 in
set_option maxRecDepth 100000 in
theorem fnErrorCode (s : ByteArray) (w : World) (hT : Tab w) :
    Calls Tryz.prog 8 #[.string s] w fun e w' => e = .returned (.bool true) ∧ Below w.heap.size w w' := by
  replace hT := Aside0.mk hT
  go_enter Tryz.func8, Tryz.ntmps8
  go_wp2_with fail
  · go_ret
    exact ⟨rfl, Below.refl _ _⟩
  · refine (works_call w hT.out).mono ?_
    rintro e w1 ⟨rfl, hb⟩
    go_wp2
    go_ret
    exact ⟨rfl, hb⟩
  · obtain ⟨i, h1⟩ := fst_ex s 58
    obtain ⟨j, h2⟩ := fst_ex (cutR s i).1 35
    have hi := errI_eq (by omega) h1 h2
    have hsp := errS_eq (by omega) h1 h2
    generalize errT (cutR s i).1 j = r at *
    refine (works_call w hT.out).mono ?_
    rintro e w1 ⟨rfl, hb1⟩
    go_wp2_with fail
    refine (impl_ErrorCode.calls _ s r w1 hi).mono ?_
    rintro e w2 ⟨rfl, hb2⟩
    go_wp2_with fail
    refine (spec_ErrorCode.calls _ s r w2 hsp).mono ?_
    rintro e w3 ⟨rfl, hb3⟩
    go_wp2
    go_ret
    refine ⟨by simp, ?_⟩
    have h2 := below_then hb1 hb1.size (drawn_below hb2)
    exact below_then h2 h2.size (drawn_below hb3)
end H
end Go.Proofs.YtclmjmfcggkpaaaGreatDoor
