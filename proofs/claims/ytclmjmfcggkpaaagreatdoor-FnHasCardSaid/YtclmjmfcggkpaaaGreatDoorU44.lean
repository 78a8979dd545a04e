import Derived.Test.YtclmjmfcggkpaaaGreatDoorU39
import Derived.Test.YtclmjmfcggkpaaaGreatDoorU42
import Derived.Test.YtclmjmfcggkpaaaGreatDoorU43
set_option linter.unusedVariables false
set_option linter.unusedSimpArgs false
namespace Go.Proofs.YtclmjmfcggkpaaaGreatDoor
open Go.RowKit Go.Proofs.YtclmjmfcggkpaaaGreatDoorW.PrintWords Go.Proofs.YtclmjmfcggkpaaaGreatDoorW.PrintLast Go.Proofs.YtclmjmfcggkpaaaGreatDoorW.PrintMore
open PX
namespace HH
open H
def fitG (f : S48) : Prop := f.f1.size ≤ 2147483647 ∧ f.f2.size ≤ 2147483647 ∧ f.f4.size ≤ 2147483647
theorem f1_from (fs : List S48) (hl : fs.length ≤ 2147483647) : ∀ (n k : Nat), n = fs.length - k → k ≤ fs.length → ∃ b F, laws_zzFits1.l0 F fs (fs.length : Int) (k : Int) = some b ∧ (b = true → ∀ (j : Nat) f, k ≤ j → fs[j]? = some f → fitG f) := by
 intro n
 induction n with
 | zero =>
   intro k hn hk
   exact ⟨true, 1, by rw [laws_zzFits1.l0, if_neg (by omega)], fun _ j f hj hf => by have := (List.getElem?_eq_some_iff.1 hf).1; omega⟩
 | succ n ih =>
   intro k hn hk
   have hlt : k < fs.length := by omega
   obtain ⟨b, F, h1, h2⟩ := ih (k + 1) (by omega) (by omega)
   have hat := rd48_at fs k hlt
   have hstep : ∀ F, laws_zzFits1.l0 (F + 1) fs (fs.length : Int) (k : Int) = ((laws_zzFits2.f ((rd_T48 fs (k : Int)).f0) ((rd_T48 fs (k : Int)).f1) ((rd_T48 fs (k : Int)).f2) ((rd_T48 fs (k : Int)).f3) ((rd_T48 fs (k : Int)).f4) ((rd_T48 fs (k : Int)).f5)).bind fun t => if t = true then (laws_zzFits1.l0 F fs (fs.length : Int) ((k + 1 : Nat) : Int)) else (some false)) := by
    intro F
    rw [laws_zzFits1.l0, if_pos (by omega), if_pos (by omega), if_pos (by omega), wr1' k fs.length hlt (by omega)]
   by_cases hf : fitG (rd_T48 fs (k : Int))
   ·refine ⟨b, F + 1, ?_, fun hb j g hj hg => ?_⟩
    ·rw [hstep]
     unfold laws_zzFits2.f
     obtain ⟨a1, a2, a3⟩ := hf
     rw [if_neg (by omega), if_neg (by omega), if_neg (by omega)]
     simpa using h1
    ·rcases Nat.eq_or_lt_of_le hj with rfl | hj
     ·rw [hat] at hg
      obtain rfl := Option.some.inj hg
      exact hf
     ·exact h2 hb j g hj hg
   ·refine ⟨false, F + 1, ?_, fun hb => by cases hb⟩
    rw [hstep]
    generalize rd_T48 fs (k : Int) = f at *
    have : laws_zzFits2.f f.f0 f.f1 f.f2 f.f3 f.f4 f.f5 = some false := by
     unfold laws_zzFits2.f
     unfold fitG at hf
     split
     ·rfl
     ·split
      ·rfl
      ·split
       ·rfl
       ·exfalso; apply hf; omega
    rw [this]
    rfl
theorem fits1_call (fs : List S48) (A0 : Option Addr) (c0 : Nat) (w : World) (hr : Kd.C k48 w A0 fs.length fs) (hc : fs.length ≤ c0) :
 ∃ b, Calls Tryz.prog 11 #[.slice A0 fs.length c0] w (fun e w' => e = .returned (.bool b) ∧ Below w.heap.size w w') ∧ (b = true → fs.length ≤ 2147483647 ∧ ∀ f ∈ fs, fitG f) := by
 by_cases hl : fs.length ≤ 2147483647
 ·obtain ⟨b, F, h1, h2⟩ := f1_from fs hl fs.length 0 (by omega) (by omega)
  refine ⟨b, laws_zzFits1.calls F A0 c0 fs b w hr hc ?_, fun hb => ⟨hl, fun f hf => ?_⟩⟩
  ·unfold laws_zzFits1.f
   rw [if_neg (by omega)]
   exact h1
  ·obtain ⟨j, hj⟩ := List.mem_iff_getElem?.1 hf
   exact h2 hb j f (Nat.zero_le _) hj
 ·exact ⟨false, laws_zzFits1.calls 0 A0 c0 fs false w hr hc (by unfold laws_zzFits1.f; rw [if_pos (by omega)]), fun hb => by cases hb⟩
/-! ### What Bind and HeadersOf make are the same -/
def putG (T : ByteArray → Option (List ByteArray)) (f : S48) : ByteArray → Option (List ByteArray) := putT T (hkey f.f0 f.f1 f.f2) (txt f.f3 f.f4 f.f5) (decide (f.f0 = 4) || decide (f.f0 = 6))
def TT (bef : List S73) (fs : List S48) (i : Nat) : ByteArray → Option (List ByteArray) := (fs.take i).foldl putG (lk bef)
theorem adds_eq (wh : Int) : adds wh = (decide (wh = 4) || decide (wh = 6)) := by
 unfold adds
 rw [← Bool.beq_eq_decide_eq, ← Bool.beq_eq_decide_eq]
theorem putF_lk {L : List S73} {T : ByteArray → Option (List ByteArray)} (h : srt L) (e : ∀ q, lk L q = T q) (f : S48) (q : ByteArray) : lk (putF L f) q = putG T f q := by
 unfold putF putG putT upT
 rw [putH_lk h, e, e, adds_eq]
theorem lk_fs {L : List S73} {T0 : ByteArray → Option (List ByteArray)} (fs : List S48) {n N : Nat} (h : Ok3 L n N) (h0 : ∀ q, lk L q = T0 q) : ∀ k, k ≤ fs.length → ∀ q, lk ((fs.take k).foldl putF L) q = (fs.take k).foldl putG T0 q := by
 intro k
 induction k with
 | zero => intro _ q; exact h0 q
 | succ k ih =>
   intro hk q
   have e : ∀ q, lk ((fs.take k).foldl putF L) q = (fs.take k).foldl putG T0 q := ih (by omega)
   rw [fold_take putF L (rd48_at fs k (by omega)), fold_take putG T0 (rd48_at fs k (by omega))]
   exact putF_lk (ok3_fs fs h k (by omega)).s e _ q
theorem TT_lk {bef : List S73} (fs : List S48) (hnd : (bef.map (·.f0)).Nodup) (hbl : ∀ h ∈ bef, h.f1.length ≤ 100) (i : Nat) (hi : i ≤ fs.length) (q : ByteArray) : TT bef fs i q = lk ((fs.take i).foldl putF (bef.foldl putB [])) q := by
 have h3 := ok3_bef bef hbl bef.length (Nat.le_refl _)
 have h0 := lk_bef hnd hbl bef.length (Nat.le_refl _)
 rw [List.take_length] at h3 h0
 exact (lk_fs fs h3 h0 i hi q).symm
theorem outH_ok {bef : List S73} {fs : List S48} (hbl : ∀ h ∈ bef, h.f1.length ≤ 100) (i : Nat) (hi : i ≤ fs.length) : Ok3 ((fs.take i).foldl putF (bef.foldl putB [])) (bef.length + i) (bef.length * 100 + i) := by
 have h3 := ok3_bef bef hbl bef.length (Nat.le_refl _)
 rw [List.take_length] at h3
 exact ok3_fs fs h3 i hi
end HH
end Go.Proofs.YtclmjmfcggkpaaaGreatDoor
