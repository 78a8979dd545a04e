import Derived.Test.YtclmjmfcggkpaaaGreatDoorU37
import Derived.Test.YtclmjmfcggkpaaaGreatDoorU32
import Derived.Test.YtclmjmfcggkpaaaGreatDoorU38
import Derived.Test.YtclmjmfcggkpaaaGreatDoorU34
import Derived.Test.YtclmjmfcggkpaaaGreatDoorU4
import Derived.Test.YtclmjmfcggkpaaaGreatDoorU35
set_option linter.unusedVariables false
set_option linter.unusedSimpArgs false
namespace Go.Proofs.YtclmjmfcggkpaaaGreatDoor
open Go.RowKit Go.Proofs.YtclmjmfcggkpaaaGreatDoorW.PrintWords Go.Proofs.YtclmjmfcggkpaaaGreatDoorW.PrintLast Go.Proofs.YtclmjmfcggkpaaaGreatDoorW.PrintMore
open PX
namespace HH
open H
/-! ### spec.AreHeaders -/
theorem splitL_all (c : Int) : ∀ (l : List Int), ∀ x ∈ l, x = c ∨ ∃ p ∈ splitL c l, x ∈ p := by
 intro l
 induction l with
 | nil => intro x hx; cases hx
 | cons y ys ih =>
   intro x hx
   rw [splitL]
   by_cases hy : y = c
   ·rw [if_pos hy]
    rcases List.mem_cons.1 hx with rfl | hx
    ·exact .inl hy
    ·rcases ih x hx with h | ⟨p, hp, hxp⟩
     ·exact .inl h
     ·exact .inr ⟨p, List.mem_cons_of_mem _ hp, hxp⟩
   ·rw [if_neg hy]
    split
    ·rename_i q qs e
     rcases List.mem_cons.1 hx with rfl | hx
     ·exact .inr ⟨_, List.mem_cons_self, List.mem_cons_self⟩
     ·rcases ih x hx with h | ⟨p, hp, hxp⟩
      ·exact .inl h
      ·rw [e] at hp
       rcases List.mem_cons.1 hp with rfl | hp
       ·exact .inr ⟨_, List.mem_cons_self, List.mem_cons_of_mem _ hxp⟩
       ·exact .inr ⟨p, List.mem_cons_of_mem _ hp, hxp⟩
    ·rename_i e
     exact absurd e (splitL_ne c ys)
theorem word_rng {l : List Int} (h : wordL l = true) : ∀ x ∈ l, 48 ≤ x ∧ x ≤ 122 := by
 have hfrom : ∀ {r : List Int}, wordFrom r = true → ∀ x ∈ r, 48 ≤ x ∧ x ≤ 122 := by
  intro r hr x hx
  have := List.all_eq_true.1 hr x hx
  simp [isLet, isDig] at this
  omega
 cases l with
 | nil => cases h
 | cons c r =>
   unfold wordL at h
   simp only [Bool.and_eq_true] at h
   intro x hx
   rcases List.mem_cons.1 hx with rfl | hx
   ·have := h.1.1
    simp [isLet] at this
    omega
   ·exact hfrom h.1.2 x hx
/-- A header's name has no spaces. -/
theorem hn_noSp {s : ByteArray} (h : hnB s = true) : noSp s := by
 have hall : ∀ x ∈ bytesOf s, 33 ≤ x ∧ x < 127 := by
  intro x hx
  rcases splitL_all 45 (bytesOf s) x hx with rfl | ⟨p, hp, hxp⟩
  ·omega
  ·have h1 := List.all_eq_true.1 h (strOfNums p) (by unfold partsB; exact List.mem_map.2 ⟨p, hp, rfl⟩)
   unfold hwB at h1
   simp only [Bool.and_eq_true] at h1
   have hr : bytesOf (strOfNums p) = p := bytesOf_strOf p (fun y hy => bytesOf_range s y (splitL_mem hp y hy).2)
   have h2 := h1.1.1.1
   rw [hr] at h2
   have := word_rng h2 x hxp
   omega
 intro i hi
 exact hall (bt s i) (by rw [← bytes_at s i hi]; exact List.getElem_mem _)
theorem noSp_left {a b : ByteArray} (h : noSp (a ++ b)) : noSp a := by
 intro i hi
 have h1 := h i (by rw [ByteArray.size_append]; omega)
 have e : bt (a ++ b) i = bt a i := by
  rw [← rd_bytesOf, ← rd_bytesOf]
  have e : bytesOf (a ++ b) = bytesOf a ++ bytesOf b := by simp [bytesOf, ByteArray.append_eq]
  rw [e]
  unfold rd
  rw [List.getD_eq_getElem?_getD, List.getD_eq_getElem?_getD, List.getElem?_append_left (by rw [bytesOf_length]; simpa using hi)]
 rw [e] at h1
 exact h1
structure OkH (h : S73) : Prop where
 name : hnB h.f0 = true
 some_ : h.f1.length ≠ 0
 few : h.f1.length ≤ 100
 not : h.f0 ≠ CL
structure OkF (f : S48) : Prop where
 wh : 3 ≤ f.f0 ∧ f.f0 ≤ 6
 kind : 0 ≤ f.f3 ∧ f.f3 ≤ 6
 name : hnB (hkey f.f0 f.f1 f.f2) = true
 key : hnB f.f2 = true
 not : hkey f.f0 f.f1 f.f2 ≠ CL
theorem cl_iff (k : ByteArray) : k.toList = ([67, 111, 110, 116, 101, 110, 116, 45, 76, 101, 110, 103, 116, 104] : List UInt8) ↔ k = CL := by
 constructor
 ·intro h
  refine toList_inj (h.trans ?_)
  rw [ByteArray.toList_eq]; rfl
 ·rintro rfl
  rw [ByteArray.toList_eq]; rfl
theorem key_f (f : S48) (h1 : f.f1.size ≤ 2147483647) (h2 : f.f2.size ≤ 2147483647) : spec_headerKey.f f.f0 f.f1 f.f2 f.f3 f.f4 f.f5 = some (hkey f.f0 f.f1 f.f2) := by
 unfold spec_headerKey.f hkey
 by_cases h : 5 ≤ f.f0
 ·rw [if_pos h, if_pos h, if_pos (by omega)]
 ·rw [if_neg h, if_neg h]
theorem hkey_size (f : S48) (h1 : f.f1.size ≤ 2147483647) (h2 : f.f2.size ≤ 2147483647) : (hkey f.f0 f.f1 f.f2).size ≤ 1099511627776 := by
 unfold hkey
 split
 ·rw [ByteArray.size_append]; omega
 ·omega
theorem are_l2 (x0 : List S73) (x1 : List S48) (x6 : List ByteArray) (hl : x1.length ≤ 2147483647) (hz : ∀ f ∈ x1, f.f1.size ≤ 2147483647 ∧ f.f2.size ≤ 2147483647) : ∀ (n i : Nat), n = x1.length - i → i ≤ x1.length → ∀ x5 : Int,
 ∃ F b, spec_AreHeaders.l2 F x0 x1 x5 x6 x1 (x1.length : Int) (i : Int) = some b ∧ (b = true → (∀ f ∈ x1.drop i, OkF f) ∧ x0.length ≤ 100 ∧ x1.length ≤ 100 ∧ x6.Nodup) := by
 intro n
 induction n with
 | zero =>
   intro i hn hi x5
   obtain rfl : i = x1.length := by omega
   by_cases c1 : x0.length ≤ 100
   ·by_cases c2 : x1.length ≤ 100
    ·by_cases c3 : x5 ≤ 10000
     ·refine ⟨1, decide x6.Nodup, ?_, fun h => ⟨fun f hf => by simp at hf, c1, c2, of_decide_eq_true h⟩⟩
      rw [spec_AreHeaders.l2, if_neg (by omega), if_pos (by omega), if_pos (by omega), if_pos c3]
      rfl
     ·refine ⟨1, false, ?_, fun h => by cases h⟩
      rw [spec_AreHeaders.l2, if_neg (by omega), if_pos (by omega), if_pos (by omega), if_neg c3]
    ·refine ⟨1, false, ?_, fun h => by cases h⟩
     rw [spec_AreHeaders.l2, if_neg (by omega), if_pos (by omega), if_neg (by omega)]
   ·refine ⟨1, false, ?_, fun h => by cases h⟩
    rw [spec_AreHeaders.l2, if_neg (by omega), if_neg (by omega)]
 | succ n ih =>
   intro i hn hi x5
   have hlt : i < x1.length := by omega
   have hm : x1[i] = rd_T48 x1 (i : Int) := by simp [rd_T48, hlt]
   have hmem : rd_T48 x1 (i : Int) ∈ x1 := by rw [← hm]; exact List.getElem_mem _
   obtain ⟨z1, z2⟩ := hz _ hmem
   obtain ⟨F1, h1⟩ := hn_eq (hkey (rd_T48 x1 (i : Int)).f0 (rd_T48 x1 (i : Int)).f1 (rd_T48 x1 (i : Int)).f2) (hkey_size _ z1 z2)
   obtain ⟨F2, h2⟩ := hn_eq (rd_T48 x1 (i : Int)).f2 (by omega)
   obtain ⟨F3, b3, h3, h3'⟩ := ih (i + 1) (by omega) (by omega) (wrap64 (x5 + (wrap64 ((wrap64 ((((rd_T48 x1 (i : Int)).f2).size : Int) + (((rd_T48 x1 (i : Int)).f1).size : Int))) + (((rd_T48 x1 (i : Int)).f4).size : Int)))))
   have k1 := raise (f := fun F => spec_IsHeaderName.f F (hkey (rd_T48 x1 (i : Int)).f0 (rd_T48 x1 (i : Int)).f1 (rd_T48 x1 (i : Int)).f2)) (fun F => spec_IsHeaderName.mono _ F) (show F1 ≤ max F1 (max F2 F3) by omega) h1
   have k2 := raise (f := fun F => spec_IsHeaderName.f F (rd_T48 x1 (i : Int)).f2) (fun F => spec_IsHeaderName.mono _ F) (show F2 ≤ max F1 (max F2 F3) by omega) h2
   have k3 := raise (f := fun F => spec_AreHeaders.l2 F x0 x1 (wrap64 (x5 + (wrap64 ((wrap64 ((((rd_T48 x1 (i : Int)).f2).size : Int) + (((rd_T48 x1 (i : Int)).f1).size : Int))) + (((rd_T48 x1 (i : Int)).f4).size : Int))))) x6 x1 (x1.length : Int) ((i + 1 : Nat) : Int)) (fun F => (spec_AreHeaders.mono_l F).2.2 _ _ _ _ _ _ _) (show F3 ≤ max F1 (max F2 F3) by omega) h3
   clear h1 h2 h3 ih
   generalize max F1 (max F2 F3) = F at *
   have hdrop : x1.drop i = rd_T48 x1 (i : Int) :: x1.drop (i + 1) := by rw [List.drop_eq_getElem_cons hlt, hm]
   have hkf := key_f _ z1 z2
   rw [hdrop]
   have hstep := spec_AreHeaders.l2.eq_2 x0 x1 x5 x6 x1 (x1.length : Int) (i : Int) F
   rw [if_pos (by omega), if_pos (by omega), if_pos (by omega), hkf, wr1' i x1.length hlt (by omega)] at hstep
   generalize rd_T48 x1 (i : Int) = f at *
   simp only [Option.bind_some, k1, k2] at hstep
   by_cases c1 : f.f0 < 3
   ·exact ⟨F + 1, false, by rw [hstep, if_pos c1], fun h => by cases h⟩
   rw [if_neg c1] at hstep
   by_cases c2 : f.f0 > 6
   ·exact ⟨F + 1, false, by rw [hstep, if_pos c2], fun h => by cases h⟩
   rw [if_neg c2] at hstep
   by_cases c3 : f.f3 < 0
   ·exact ⟨F + 1, false, by rw [hstep, if_pos c3], fun h => by cases h⟩
   rw [if_neg c3] at hstep
   by_cases c4 : f.f3 > 6
   ·exact ⟨F + 1, false, by rw [hstep, if_pos c4], fun h => by cases h⟩
   rw [if_neg c4] at hstep
   by_cases c5 : hnB (hkey f.f0 f.f1 f.f2) = true
   ·rw [if_pos c5] at hstep
    by_cases c6 : hnB f.f2 = true
    ·rw [if_pos c6] at hstep
     by_cases c7 : (hkey f.f0 f.f1 f.f2).toList = ([67, 111, 110, 116, 101, 110, 116, 45, 76, 101, 110, 103, 116, 104] : List UInt8)
     ·exact ⟨F + 1, false, by rw [hstep, if_pos c7], fun h => by cases h⟩
     ·rw [if_neg c7] at hstep
      refine ⟨F + 1, b3, by rw [hstep]; exact k3, fun h => ?_⟩
      obtain ⟨q1, q2⟩ := h3' h
      refine ⟨fun g hg => ?_, q2⟩
      rcases List.mem_cons.1 hg with rfl | hg
      ·exact ⟨⟨by omega, by omega⟩, ⟨by omega, by omega⟩, c5, c6, fun e => c7 ((cl_iff _).2 e)⟩
      ·exact q1 g hg
    ·exact ⟨F + 1, false, by rw [hstep, if_neg c6], fun h => by cases h⟩
   ·exact ⟨F + 1, false, by rw [hstep, if_neg c5], fun h => by cases h⟩
theorem are_l1 (x0 : List S73) (x1 : List S48) (P : Prop) (h : S73) (i : Nat) (hi : i < x0.length) (hl : x0.length ≤ 2147483647) (hz : h.f0.size ≤ 2147483647) (hv : h.f1.length ≤ 2147483647) (x6 : List ByteArray)
 (hrest : ∀ x5 : Int, ∃ F b, spec_AreHeaders.l0 F x0 x1 x5 x6 x0 (x0.length : Int) ((i + 1 : Nat) : Int) = some b ∧ (b = true → P)) : ∀ (n j : Nat), n = h.f1.length - j → j ≤ h.f1.length → ∀ x5 : Int,
 ∃ F b, spec_AreHeaders.l1 F x0 x1 x5 x6 x0 (x0.length : Int) (i : Int) h.f1 (h.f1.length : Int) (j : Int) h.f0 h.f1 = some b ∧ (b = true → OkH h ∧ P) := by
 intro n
 induction n with
 | zero =>
   intro j hn hj x5
   obtain rfl : j = h.f1.length := by omega
   obtain ⟨F1, h1⟩ := hn_eq h.f0 (by omega)
   obtain ⟨F3, b3, h3, h3'⟩ := hrest x5
   have k1 := raise (f := fun F => spec_IsHeaderName.f F h.f0) (fun F => spec_IsHeaderName.mono _ F) (show F1 ≤ max F1 F3 by omega) h1
   have k3 := raise (f := fun F => spec_AreHeaders.l0 F x0 x1 x5 x6 x0 (x0.length : Int) ((i + 1 : Nat) : Int)) (fun F => (spec_AreHeaders.mono_l F).1 _ _ _ _ _ _ _) (show F3 ≤ max F1 F3 by omega) h3
   generalize max F1 F3 = F at *
   have hstep := spec_AreHeaders.l1.eq_2 x0 x1 x5 x6 x0 (x0.length : Int) (i : Int) h.f1 (h.f1.length : Int) ((h.f1.length : Nat) : Int) h.f0 h.f1 F
   rw [if_neg (by omega), k1, wr1' i x0.length hi (by omega)] at hstep
   simp only [Option.bind_some] at hstep
   by_cases c1 : hnB h.f0 = true
   ·rw [if_pos c1] at hstep
    by_cases c2 : (h.f1.length : Int) = 0
    ·exact ⟨F + 1, false, by rw [hstep, if_pos c2], fun h => by cases h⟩
    rw [if_neg c2] at hstep
    by_cases c3 : (h.f1.length : Int) > 100
    ·exact ⟨F + 1, false, by rw [hstep, if_pos c3], fun h => by cases h⟩
    rw [if_neg c3] at hstep
    by_cases c4 : h.f0.toList = ([67, 111, 110, 116, 101, 110, 116, 45, 76, 101, 110, 103, 116, 104] : List UInt8)
    ·exact ⟨F + 1, false, by rw [hstep, if_pos c4], fun h => by cases h⟩
    rw [if_neg c4] at hstep
    exact ⟨F + 1, b3, by rw [hstep]; exact k3, fun hb => ⟨⟨c1, by omega, by omega, fun e => c4 ((cl_iff _).2 e)⟩, h3' hb⟩⟩
   ·exact ⟨F + 1, false, by rw [hstep, if_neg c1], fun h => by cases h⟩
 | succ n ih =>
   intro j hn hj x5
   obtain ⟨F, b, h1, h2⟩ := ih (j + 1) (by omega) (by omega) (wrap64 (x5 + ((rdOf ByteArray.empty h.f1 (j : Int)).size : Int)))
   refine ⟨F + 1, b, ?_, h2⟩
   have hstep := spec_AreHeaders.l1.eq_2 x0 x1 x5 x6 x0 (x0.length : Int) (i : Int) h.f1 (h.f1.length : Int) (j : Int) h.f0 h.f1 F
   rw [if_pos (by omega), if_pos (by omega), if_pos (by omega), wr1' j h.f1.length (by omega) (by omega)] at hstep
   rw [hstep]
   exact h1
structure AreH (x0 : List S73) (x1 : List S48) : Prop where
 hs : ∀ h ∈ x0, OkH h
 fs : ∀ f ∈ x1, OkF f
 n0 : x0.length ≤ 100
 n1 : x1.length ≤ 100
 nd : (x0.map (·.f0)).Nodup
theorem are_l0 (x0 : List S73) (x1 : List S48) (hl0 : x0.length ≤ 2147483647) (hz0 : ∀ h ∈ x0, h.f0.size ≤ 2147483647 ∧ h.f1.length ≤ 2147483647) (hl : x1.length ≤ 2147483647) (hz : ∀ f ∈ x1, f.f1.size ≤ 2147483647 ∧ f.f2.size ≤ 2147483647) :
 ∀ (n i : Nat), n = x0.length - i → i ≤ x0.length → ∀ (x5 : Int) (x6 : List ByteArray), x6.length ≤ i →
 ∃ F b, spec_AreHeaders.l0 F x0 x1 x5 x6 x0 (x0.length : Int) (i : Int) = some b ∧ (b = true → (∀ h ∈ x0.drop i, OkH h) ∧ (∀ f ∈ x1, OkF f) ∧ x0.length ≤ 100 ∧ x1.length ≤ 100 ∧ (x6 ++ (x0.drop i).map (·.f0)).Nodup) := by
 intro n
 induction n with
 | zero =>
   intro i hn hi x5 x6 hx
   obtain rfl : i = x0.length := by omega
   obtain ⟨F, b, h1, h2⟩ := are_l2 x0 x1 x6 hl hz x1.length 0 (by omega) (by omega) x5
   refine ⟨F + 1, b, ?_, fun hb => ?_⟩
   ·have hstep := spec_AreHeaders.l0.eq_2 x0 x1 x5 x6 x0 (x0.length : Int) ((x0.length : Nat) : Int) F
    rw [if_neg (by omega)] at hstep
    rw [hstep]; exact h1
   ·obtain ⟨q1, q2, q3, q4⟩ := h2 hb
    exact ⟨fun h hh => by simp at hh, by simpa using q1, q2, q3, by simpa using q4⟩
 | succ n ih =>
   intro i hn hi x5 x6 hx
   have hlt : i < x0.length := by omega
   have hm : x0[i] = rd_T73 x0 (i : Int) := by simp [rd_T73, hlt]
   have hmem : rd_T73 x0 (i : Int) ∈ x0 := by rw [← hm]; exact List.getElem_mem _
   obtain ⟨z1, z2⟩ := hz0 _ hmem
   have hdrop : x0.drop i = rd_T73 x0 (i : Int) :: x0.drop (i + 1) := by rw [List.drop_eq_getElem_cons hlt, hm]
   rw [hdrop]
   have hstep := fun F => spec_AreHeaders.l0.eq_2 x0 x1 x5 x6 x0 (x0.length : Int) (i : Int) F
   generalize rd_T73 x0 (i : Int) = h at *
   obtain ⟨F, b, h1, h2⟩ := are_l1 x0 x1 ((∀ h ∈ x0.drop (i + 1), OkH h) ∧ (∀ f ∈ x1, OkF f) ∧ x0.length ≤ 100 ∧ x1.length ≤ 100 ∧ ((x6 ++ [h.f0]) ++ (x0.drop (i + 1)).map (·.f0)).Nodup) h i hlt hl0 z1 z2 (x6 ++ [h.f0])
    (fun x5' => ih (i + 1) (by omega) (by omega) x5' (x6 ++ [h.f0]) (by simp; omega)) h.f1.length 0 (by omega) (by omega) (wrap64 (x5 + (h.f0.size : Int)))
   refine ⟨F + 1, b, ?_, fun hb => ?_⟩
   ·rw [hstep, if_pos (by omega), if_pos (by omega), if_pos (by omega), if_pos (by omega)]
    exact h1
   ·obtain ⟨q0, q1, q2, q3, q4, q5⟩ := h2 hb
    refine ⟨fun g hg => ?_, q2, q3, q4, by simpa using q5⟩
    rcases List.mem_cons.1 hg with rfl | hg
    ·exact q0
    ·exact q1 g hg
theorem are_eq (x0 : List S73) (x1 : List S48) (hl0 : x0.length ≤ 2147483647) (hz0 : ∀ h ∈ x0, h.f0.size ≤ 2147483647 ∧ h.f1.length ≤ 2147483647) (hl : x1.length ≤ 2147483647) (hz : ∀ f ∈ x1, f.f1.size ≤ 2147483647 ∧ f.f2.size ≤ 2147483647) :
 ∃ F b, spec_AreHeaders.f F x0 x1 = some b ∧ (b = true → AreH x0 x1) := by
 obtain ⟨F, b, h1, h2⟩ := are_l0 x0 x1 hl0 hz0 hl hz x0.length 0 (by omega) (by omega) 0 [] (by simp)
 exact ⟨F, b, h1, fun hb => by
  obtain ⟨q1, q2, q3, q4, q5⟩ := h2 hb
  exact ⟨by simpa using q1, q2, q3, q4, by simpa using q5⟩⟩
end HH
end Go.Proofs.YtclmjmfcggkpaaaGreatDoor
set_option linter.unusedVariables false
set_option linter.unusedSimpArgs false
namespace Go.Proofs.YtclmjmfcggkpaaaGreatDoor
open Go.RowKit Go.Proofs.YtclmjmfcggkpaaaGreatDoorW.PrintWords Go.Proofs.YtclmjmfcggkpaaaGreatDoorW.PrintLast Go.Proofs.YtclmjmfcggkpaaaGreatDoorW.PrintMore
open PX
namespace HH
open H
/-! ### spec.HeadersOf: headers that were there -/
def putB (L : List S73) (h : S73) : List S73 := putH L h.f0 h.f1 false
theorem fold_take {α β : Type} (f : β → α → β) (b : β) {l : List α} {k : Nat} {a : α} (h : l[k]? = some a) : (l.take (k + 1)).foldl f b = f ((l.take k).foldl f b) a := by
 have hl := (List.getElem?_eq_some_iff.1 h).1
 rw [List.take_succ_eq_append_getElem hl, (List.getElem?_eq_some_iff.1 h).2, List.foldl_append]
 rfl
theorem insH_len (L : List S73) (x : S73) : (insH L x).length = L.length + 1 := by
 induction L with
 | nil => simp [insH, below]
 | cons a L ih =>
   rw [insH_cons]
   split
   ·simp [ih]
   ·simp
theorem putH_len (L : List S73) (k : ByteArray) (vs : List ByteArray) (add : Bool) : (putH L k vs add).length ≤ L.length + 1 := by
 unfold putH
 split
 ·split
  ·simp
  ·rw [insH_len]; exact Nat.le_refl _
 ·rw [insH_len]; exact Nat.le_refl _
theorem putH_val {L : List S73} {k : ByteArray} {vs : List ByteArray} {add : Bool} {N : Nat} (h : ∀ a ∈ L, a.f1.length ≤ N) : ∀ a ∈ putH L k vs add, a.f1.length ≤ N + vs.length := by
 intro a ha
 unfold putH at ha
 split at ha
 ·rename_i b hb
  split at ha
  ·rcases List.mem_or_eq_of_mem_set ha with ha | rfl
   ·have := h a ha; omega
   ·have := h b (List.mem_of_getElem? hb)
    cases add <;> simp <;> omega
  ·rcases insH_mem.1 ha with rfl | ha
   ·simp
   ·have := h a ha; omega
 ·rcases insH_mem.1 ha with rfl | ha
  ·simp
  ·have := h a ha; omega
structure Ok3 (L : List S73) (n N : Nat) : Prop where
 s : srt L
 n : L.length ≤ n
 v : ∀ a ∈ L, a.f1.length ≤ N
theorem Ok3.put {L : List S73} {n N : Nat} (h : Ok3 L n N) (k : ByteArray) (vs : List ByteArray) (add : Bool) : Ok3 (putH L k vs add) (n + 1) (N + vs.length) :=
 ⟨putH_srt h.s, Nat.le_trans (putH_len _ _ _ _) (Nat.add_le_add_right h.n 1), putH_val h.v⟩
theorem Ok3.mono {L : List S73} {n N n' N' : Nat} (h : Ok3 L n N) (h1 : n ≤ n') (h2 : N ≤ N') : Ok3 L n' N' := ⟨h.s, Nat.le_trans h.n h1, fun a ha => Nat.le_trans (h.v a ha) h2⟩
theorem ok3_bef (bef : List S73) (hbl : ∀ h ∈ bef, h.f1.length ≤ 100) : ∀ k, k ≤ bef.length → Ok3 ((bef.take k).foldl putB []) k (k * 100) := by
 intro k
 induction k with
 | zero => intro _; exact ⟨List.Pairwise.nil, Nat.le_refl _, fun _ h => by cases h⟩
 | succ k ih =>
   intro hk
   rw [fold_take putB [] (List.getElem?_eq_getElem (show k < bef.length by omega))]
   exact ((ih (by omega)).put _ _ _).mono (Nat.le_refl _) (by have := hbl bef[k] (List.getElem_mem _); omega)
theorem row73_new (w : World) : SO w.heap.size (.slice (some ⟨w.heap.size, 0, none⟩) 0 0) [] (w.alloc (.cells #[] 73)) := by
 refine ⟨?_, fun _ h => by cases h⟩
 have h2 := World.ownsRow_lit (base := w.heap.size) (e := 73) (size := 2) w #[] 0 (Nat.le_refl _) (by simp [maxLen]) (by simp)
 simpa [flat] using h2
end HH
end Go.Proofs.YtclmjmfcggkpaaaGreatDoor
namespace Go.Proofs.YtclmjmfcggkpaaaGreatDoor.PX
open Go.RowKit Go.Proofs.YtclmjmfcggkpaaaGreatDoorW.PrintWords Go.Proofs.YtclmjmfcggkpaaaGreatDoorW.PrintLast Go.Proofs.YtclmjmfcggkpaaaGreatDoorW.PrintMore
attribute [local go_sem] max2_int min2_int max_two min_two max_three min_three max_four min_four   -- for this text's walks alone
set_option linter.unusedVariables false
set_option linter.unusedSimpArgs false

/-! ### laws_zzFits7: function 89 -/
end Go.Proofs.YtclmjmfcggkpaaaGreatDoor.PX
namespace Go.Proofs.YtclmjmfcggkpaaaGreatDoor.PX
open Go.RowKit Go.Proofs.YtclmjmfcggkpaaaGreatDoorW.PrintWords Go.Proofs.YtclmjmfcggkpaaaGreatDoorW.PrintLast Go.Proofs.YtclmjmfcggkpaaaGreatDoorW.PrintMore
attribute [local go_sem] max2_int min2_int max_two min_two max_three min_three max_four min_four   -- for this text's walks alone
set_option linter.unusedVariables false
set_option linter.unusedSimpArgs false

/-! ### laws_zzFits6: function 56 -/
end Go.Proofs.YtclmjmfcggkpaaaGreatDoor.PX
namespace Go.Proofs.YtclmjmfcggkpaaaGreatDoor.PX
open Go.RowKit Go.Proofs.YtclmjmfcggkpaaaGreatDoorW.PrintWords Go.Proofs.YtclmjmfcggkpaaaGreatDoorW.PrintLast Go.Proofs.YtclmjmfcggkpaaaGreatDoorW.PrintMore
attribute [local go_sem] max2_int min2_int max_two min_two max_three min_three max_four min_four   -- for this text's walks alone
set_option linter.unusedVariables false
set_option linter.unusedSimpArgs false

/-! ### laws_zzFits5: function 27 -/
end Go.Proofs.YtclmjmfcggkpaaaGreatDoor.PX
set_option linter.unusedVariables false
set_option linter.unusedSimpArgs false
namespace Go.Proofs.YtclmjmfcggkpaaaGreatDoor
open Go.RowKit Go.Proofs.YtclmjmfcggkpaaaGreatDoorW.PrintWords Go.Proofs.YtclmjmfcggkpaaaGreatDoorW.PrintLast Go.Proofs.YtclmjmfcggkpaaaGreatDoorW.PrintMore
open PX
namespace HH
open H
/-! ### The laws' sizes -/
theorem putB_lk {L : List S73} (h : srt L) (x : S73) (q : ByteArray) : lk (putB L x) q = if x.f0 = q then some x.f1 else lk L q := by
 unfold putB
 rw [putH_lk h]
 rfl
theorem lk_bef {bef : List S73} (hnd : (bef.map (·.f0)).Nodup) (hbl : ∀ h ∈ bef, h.f1.length ≤ 100) : ∀ k, k ≤ bef.length → ∀ q, lk ((bef.take k).foldl putB []) q = lk (bef.take k) q := by
 intro k
 induction k with
 | zero => intro _ q; rfl
 | succ k ih =>
   intro hk q
   rw [fold_take putB [] (rd73_at bef k (by omega)), lk_take k (by omega) q hnd]
   rw [putB_lk (ok3_bef bef hbl k (by omega)).s, ih (by omega)]
end HH
end Go.Proofs.YtclmjmfcggkpaaaGreatDoor
