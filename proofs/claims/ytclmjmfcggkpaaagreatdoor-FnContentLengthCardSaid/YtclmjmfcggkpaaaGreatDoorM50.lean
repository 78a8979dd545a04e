import Derived.Test.YtclmjmfcggkpaaaGreatDoorM46
import Derived.Test.YtclmjmfcggkpaaaGreatDoorM33
import Derived.Test.YtclmjmfcggkpaaaGreatDoorM38
import Derived.Test.YtclmjmfcggkpaaaGreatDoorM49
import Derived.Test.YtclmjmfcggkpaaaGreatDoorM25
import Derived.Deep.RegionHeld3
set_option linter.unusedVariables false
set_option linter.unusedSimpArgs false
namespace Go.Proofs.YtclmjmfcggkpaaaGreatDoor
open Go.RowKit Go.Proofs.YtclmjmfcggkpaaaGreatDoorW.PrintWords Go.Proofs.YtclmjmfcggkpaaaGreatDoorW.PrintLast Go.Proofs.YtclmjmfcggkpaaaGreatDoorW.PrintMore
open PX
namespace HH
open H
/-! ### The laws' sizes -/
theorem f7_l0 (vs : List ByteArray) (hl : vs.length ≤ 2147483647) : ∀ (n i : Nat), n = vs.length - i → i ≤ vs.length → ∃ F b, laws_zzFits7.l0 F vs (vs.length : Int) (i : Int) = some b := by
  intro n
  induction n with
  | zero =>
    intro i hn hi
    exact ⟨1, true, by rw [laws_zzFits7.l0, if_neg (by omega)]⟩
  | succ n ih =>
    intro i hn hi
    obtain ⟨F, b, h⟩ := ih (i + 1) (by omega) (by omega)
    by_cases hs : ((rdOf ByteArray.empty vs (i : Int)).size : Int) > 2147483647
    · exact ⟨1, false, by rw [laws_zzFits7.l0, if_pos (by omega), if_pos (by omega), if_pos (by omega), if_pos hs]⟩
    · exact ⟨F + 1, b, by rw [laws_zzFits7.l0, if_pos (by omega), if_pos (by omega), if_pos (by omega), if_neg hs, wr1' i vs.length (by omega) (by omega)]; exact h⟩
theorem f7_eq (vs : List ByteArray) : ∃ F b, laws_zzFits7.f F vs = some b ∧ (b = true → vs.length ≤ 2147483647) := by
  by_cases hl : vs.length ≤ 2147483647
  · obtain ⟨F, b, h⟩ := f7_l0 vs hl vs.length 0 (by omega) (by omega)
    exact ⟨F, b, by unfold laws_zzFits7.f; rw [if_neg (by omega)]; exact h, fun _ => hl⟩
  · exact ⟨0, false, by unfold laws_zzFits7.f; rw [if_pos (by omega)], fun h => by cases h⟩
theorem f6_eq (k : ByteArray) (vs : List ByteArray) : ∃ F b, laws_zzFits6.f F k vs = some b ∧ (b = true → k.size ≤ 2147483647 ∧ vs.length ≤ 2147483647) := by
  by_cases hl : (k.size : Int) > 2147483647
  · exact ⟨0, false, by unfold laws_zzFits6.f; rw [if_pos hl], fun h => by cases h⟩
  · obtain ⟨F, b, h, hb⟩ := f7_eq vs
    refine ⟨F, b, ?_, fun e => ⟨by omega, hb e⟩⟩
    unfold laws_zzFits6.f
    rw [if_neg hl, h]
    cases b <;> rfl
def fitH (h : S73) : Prop := h.f0.size ≤ 2147483647 ∧ h.f1.length ≤ 2147483647
theorem f5_l0 (L : List S73) (hl : L.length ≤ 2147483647) : ∀ (n i : Nat), n = L.length - i → i ≤ L.length → ∃ F b, laws_zzFits5.l0 F L (L.length : Int) (i : Int) = some b ∧ (b = true → ∀ (j : Nat) h, i ≤ j → L[j]? = some h → fitH h) := by
  intro n
  induction n with
  | zero =>
    intro i hn hi
    exact ⟨1, true, by rw [laws_zzFits5.l0, if_neg (by omega)], fun _ j h hj hh => by have := (List.getElem?_eq_some_iff.1 hh).1; omega⟩
  | succ n ih =>
    intro i hn hi
    obtain ⟨F, b, h, hb⟩ := ih (i + 1) (by omega) (by omega)
    obtain ⟨G, c, g, hc⟩ := f6_eq (rd_T73 L (i : Int)).f0 (rd_T73 L (i : Int)).f1
    have hat := rd73_at L i (by omega)
    have h1 := raise (f := fun F => laws_zzFits5.l0 F L (L.length : Int) ((i + 1 : Nat) : Int)) (fun F => (laws_zzFits5.mono_l F) _ _ _) (Nat.le_max_left F G) h
    have g1 := raise (f := fun F => laws_zzFits6.f F (rd_T73 L (i : Int)).f0 (rd_T73 L (i : Int)).f1) (fun F => laws_zzFits6.mono _ _ F) (Nat.le_max_right F G) g
    try simp only at h1 g1
    cases c with
    | false =>
      refine ⟨max F G + 1, false, ?_, fun h => by cases h⟩
      rw [laws_zzFits5.l0, if_pos (by omega), if_pos (by omega), if_pos (by omega), g1]
      rfl
    | true =>
      refine ⟨max F G + 1, b, ?_, fun e j x hj hx => ?_⟩
      · rw [laws_zzFits5.l0, if_pos (by omega), if_pos (by omega), if_pos (by omega), g1, wr1' i L.length (by omega) (by omega)]
        exact h1
      · rcases Nat.eq_or_lt_of_le hj with rfl | hj
        · rw [hat] at hx
          obtain rfl := Option.some.inj hx
          exact hc rfl
        · exact hb e j x hj hx
theorem fits5_call (L : List S73) (A0 : Option Addr) (c0 : Nat) (w : World) (hr : Kd.C k73 w A0 L.length L) (hc : L.length ≤ c0) :
    ∃ b, Calls Tryz.prog 27 #[.slice A0 L.length c0] w (fun e w' => e = .returned (.bool b) ∧ Below w.heap.size w w') ∧ (b = true → L.length ≤ 2147483647 ∧ ∀ h ∈ L, fitH h) := by
  by_cases hl : L.length ≤ 2147483647
  · obtain ⟨F, b, h1, h2⟩ := f5_l0 L hl L.length 0 (by omega) (by omega)
    refine ⟨b, laws_zzFits5.calls F A0 c0 L b w hr hc ?_, fun hb => ⟨hl, fun h hh => ?_⟩⟩
    · unfold laws_zzFits5.f
      rw [if_neg (by omega)]
      exact h1
    · obtain ⟨j, hj⟩ := List.mem_iff_getElem?.1 hh
      exact h2 hb j h (Nat.zero_le _) hj
  · exact ⟨false, laws_zzFits5.calls 0 A0 c0 L false w hr hc (by unfold laws_zzFits5.f; rw [if_pos (by omega)]), fun hb => by cases hb⟩
theorem putB_lk {L : List S73} (h : srt L) (x : S73) (q : ByteArray) : lk (putB L x) q = if x.f0 = q then some x.f1 else lk L q := by
  unfold putB
  rw [putH_lk h]
  rfl
theorem lk_bef {bef : List S73} (hnd : (bef.map (·.f0)).Nodup) (hbl : ∀ h ∈ bef, h.f1.length ≤ 100) : ∀ k, k ≤ bef.length → ∀ q, lk ((bef.take k).foldl putB []) q = lk (bef.take k) q := by
  intro k
  induction k with
  | zero => intro _ q; rfl
  | succ k ih =>
    intro hk q
    rw [fold_take putB [] (rd73_at bef k (by omega)), lk_take k (by omega) q hnd]
    rw [putB_lk (ok3_bef bef hbl k (by omega)).s, ih (by omega)]
end HH
end Go.Proofs.YtclmjmfcggkpaaaGreatDoor
set_option linter.unusedVariables false
set_option linter.unusedSimpArgs false
namespace Go.Proofs.YtclmjmfcggkpaaaGreatDoor
open Go.RowKit Go.Proofs.YtclmjmfcggkpaaaGreatDoorW.PrintWords Go.Proofs.YtclmjmfcggkpaaaGreatDoorW.PrintLast Go.Proofs.YtclmjmfcggkpaaaGreatDoorW.PrintMore
open PX
namespace HH
open H
/-! ### impl.put: the length of the content -/
set_option maxHeartbeats 1000000 in
set_option maxRecDepth 100000 in
theorem putL {B : Nat} {X : Nat → Prop} {m n eb : Nat} {T : ByteArray → Option (List ByteArray)} {w : World} (H : MapIn B X m n T w) (hT : Pow w) (hS : Spc w) (he : w.cell? ⟨eb, 4, none⟩ = some (.map (some m)))
    (pre key : ByteArray) (hk : noSp key) (hz : key.size ≤ 1099511627776) (text : ByteArray) (num : Int) (hn : -9223372036854775808 ≤ num ∧ num ≤ 9223372036854775807) (hs : text.size ≤ 2147483647) :
    Calls Tryz.prog 46 #[.pointer (some ⟨eb, 0, none⟩), FV 3 pre key 5 text num] w (PutE B X m n (putT T (key) (decS num) false) w) := by
  replace H := Aside0.mk H
  replace hT := Aside0.mk hT
  replace hS := Aside0.mk hS
  replace hn := Aside0.mk hn
  replace hk := Aside0.mk hk
  replace hz := Aside0.mk hz
  unfold FV
  go_enter Tryz.func46, Tryz.ntmps46
  go_wp2_with fail
  have hu := heap_new w (.cells #[.int .i64 3, .string pre, .string key, .int .i64 5, .string text, .int .i64 num] 48)
  have hb1 := below_alloc (Below.refl w.heap.size w) (.cells #[.int .i64 3, .string pre, .string key, .int .i64 5, .string text, .int .i64 num] 48)
  have H1 := Aside0.mk (H.out.also hb1 (Nat.le_refl _) (by simp))
  have he1 := pw_cell_below hb1 he
  generalize w.alloc (.cells #[.int .i64 3, .string pre, .string key, .int .i64 5, .string text, .int .i64 num] 48) = w1 at *
  replace hb1 := Aside0.mk hb1
  have hS1 : Aside0 (Spc w1) := .mk (hS.out.calm hb1.out)
  have hS2 : Aside0 (Spc w1.drew) := .mk (hS.out.calm (below_drew hb1.out))
  have hT1 : Aside0 (Pow w1) := .mk (hT.out.below hb1.out)
  have hlow := Aside0.mk H.out.low
  generalize hub : w.heap.size = ub at *
  have c0 := cell_at hu 0; have c1 := cell_at hu 1; have c2 := cell_at hu 2; have c3 := cell_at hu 3; have c4 := cell_at hu 4; have c5 := cell_at hu 5
  simp at c0 c1 c2 c3 c4 c5
  replace hu := Aside0.mk hu
  have hin := fun (w : World) (H : MapIn B (fun k => X k ∨ k = ub) m n T w) (hT : Pow w) => inHdr5 H hT (key) false text num hn.out hs 3 pre key
  unfold HV FV at hin
  replace hin := Aside0.mk hin
  go_region_held3 (fun w' => w'.cell? ⟨ub, 0, none⟩ = some (.int .i64 3) ∧ w'.cell? ⟨ub, 1, none⟩ = some (.string pre) ∧ w'.cell? ⟨ub, 2, none⟩ = some (.string key) ∧ w'.cell? ⟨ub, 3, none⟩ = some (.int .i64 5) ∧ w'.cell? ⟨ub, 4, none⟩ = some (.string text) ∧ w'.cell? ⟨ub, 5, none⟩ = some (.int .i64 num)) (simp [*, World.cell?_alloc_some, World.cell?_setCell_far]) (first | ((go_at_call 76; refine (setHdr_call eb m key w1.drew hS2.out hk.out hz.out he1).mono ?_; unfold HV; rintro e w2 ⟨rfl, hb⟩; replace hb := undrew hb; have h := heap_below hb hu.out; have e0 := cell_at h 0; have e1 := cell_at h 1; have e2 := cell_at h 2; have e3 := cell_at h 3; have e4 := cell_at h 4; have e5 := cell_at h 5; simp at e0 e1 e2 e3 e4 e5; replace h := Aside0.mk h; replace hb := Aside0.mk hb)) | ((go_at_call 75; refine (hin.out w2 (H1.out.calm hb.out) (hT1.out.below hb.out)).mono ?_; rintro e w4 ⟨rfl, h1, h2⟩; have h4 := Fr.heap h2 h.out (fun hs => hs.2 (.inr rfl)); have g0 := cell_at h4 0; have g1 := cell_at h4 1; have g2 := cell_at h4 2; have g3 := cell_at h4 3; have g4 := cell_at h4 4; have g5 := cell_at h4 5; simp at g0 g1 g2 g3 g4 g5)))
  go_wp2
  go_ret
  subst hub
  exact ⟨rfl, (PutP.from (below_then hb1.out hb1.out.size hb.out) ⟨rfl, h1, h2⟩ (fun k _ hk => .inl hk) hlow.out).2⟩
end HH
end Go.Proofs.YtclmjmfcggkpaaaGreatDoor
