import Derived.Test.YtclmjmfcggkpaaaGreatDoorH1
import Derived.Test.YtclmjmfcggkpaaaGreatDoorHEsc
import Derived.Test.YtclmjmfcggkpaaaGreatDoorPXx39
import Derived.StillTailTactics
namespace Go.Proofs.YtclmjmfcggkpaaaGreatDoor
open Go.RowKit Go.Proofs.YtclmjmfcggkpaaaGreatDoorW.PrintWords Go.Proofs.YtclmjmfcggkpaaaGreatDoorW.PrintLast Go.Proofs.YtclmjmfcggkpaaaGreatDoorW.PrintMore
namespace H
set_option maxHeartbeats 400000 in
set_option maxRecDepth 100000 in
theorem bufCap_call (base : Nat) (v : Value) (n0 : Nat) (xs0 : List Value) (m : Int) (w : World) (ho : w.ownsRow base 5 1 v n0 xs0) (hb : base ≤ w.heap.size) (hm : 0 ≤ m) (hn : m ≤ 140737488355328) :
    Calls Tryz.prog 191 #[v, .int .i64 m] w fun e w' => ∃ v', e = .returned v' ∧ w'.ownsRow base 5 1 v' 0 [] ∧ Below w.heap.size w w' ∧ (v'.ownBlock = v.ownBlock ∨ ∃ g, v'.ownBlock = some g ∧ w.heap.size ≤ g) := by
  obtain ⟨n, rfl⟩ := Int.eq_ofNat_of_zero_le hm
  obtain ⟨i, hi, hzz⟩ := Option.map_eq_some_iff.1 inf5
  simp only [Prod.mk.injEq] at hzz
  obtain ⟨hz0, hz1, hz2⟩ := hzz
  obtain ⟨wm, hmk, hmo, hmg⟩ := run_make_own (P := Tryz.prog) (w := w) w.heap.size 104 5 i (.int .u8 0) 1 Tryz.underlying104 hi hz0 hz1 .i64 .i64 n (by rw [hz2]; omega) (by simp only [maxLen]; omega) (Nat.le_refl _)
  have Hmo := Aside0.mk hmo; have Hmg := Aside0.mk hmg; clear hmo hmg hz0 hz1 hz2 hi
  have Ho := Aside0.mk ho
  obtain ⟨hl, ⟨rfl, rfl⟩ | ⟨g, cap, cur, rfl, h1, h2, h3, h4, h5, h6⟩⟩ := ho
  · clear hl
    by_cases h0 : (0 : Int) < (n : Int)
    · go_enter Tryz.func191, Tryz.ntmps191
      go_wp2
      go_ret
      exact ⟨_, rfl, own_low Hmo.out hb, (Below.refl _ _).grown Hmg.out (Nat.le_refl _) (by simp), .inr ⟨_, rfl, Nat.le_refl _⟩⟩
    · go_enter Tryz.func191, Tryz.ntmps191
      go_wp2
      go_ret
      exact ⟨_, rfl, own_nil _ _ _ _, Below.refl _ _, .inl rfl⟩
  · clear hl h2 h5 h6
    unfold maxLen at h4
    by_cases h0 : (cap : Int) < (n : Int)
    · go_enter Tryz.func191, Tryz.ntmps191
      go_wp2
      go_ret
      exact ⟨_, rfl, own_low Hmo.out hb, (Below.refl _ _).grown Hmg.out (Nat.le_refl _) (by simp), .inr ⟨_, rfl, Nat.le_refl _⟩⟩
    · go_enter Tryz.func191, Tryz.ntmps191
      go_wp2
      go_ret
      exact ⟨_, rfl, own_cut0 Ho.out, Below.refl _ _, .inl rfl⟩
/-- The buffer for a field's text: v is the row as it stands in w, vb as it stood in w0. -/
structure FB (B : Nat) (w0 : World) (vb : Value) (w : World) (v : Value) (xs : List Int) : Prop where
  own : w.ownsRow B 5 1 v xs.length (nums .u8 xs)
  at_ : v.ownBlock = vb.ownBlock ∨ ∃ g, v.ownBlock = some g ∧ w0.heap.size ≤ g
  fr : Fr (fun k => vb.ownBlock = some k) w0 w
theorem FB.next {B : Nat} {w0 w w1 : World} {vb v v1 : Value} {xs ys : List Int} (h : FB B w0 vb w v xs) (ho : w1.ownsRow B 5 1 v1 ys.length (nums .u8 ys)) (hg : w.grownBy w1 v.ownBlock)
    (hat : v1.ownBlock = v.ownBlock ∨ ∃ b, v1.ownBlock = some b ∧ w.heap.size ≤ b) : FB B w0 vb w1 v1 ys := by
  refine ⟨ho, ?_, h.fr.grown hg ?_⟩
  · rcases hat with hat | ⟨b, hb, hle⟩
    · rw [hat]; exact h.at_
    · exact .inr ⟨b, hb, Nat.le_trans h.fr.size hle⟩
  · intro k hk
    rcases h.at_ with ha | ⟨g, ha, hle⟩
    · exact .inl (ha.symm.trans hk)
    · rw [ha] at hk; injection hk with hk; subst hk; exact .inr hle
theorem FB.below {B : Nat} {w0 w w1 : World} {vb v : Value} {xs : List Int} (h : FB B w0 vb w v xs) (hb : Below w.heap.size w w1) : FB B w0 vb w1 v xs :=
  ⟨pw_own_below h.own hb, h.at_, h.fr.trans (Fr.of_below (S := fun _ => False) hb) (fun _ _ h => h.elim)⟩
theorem FB.base {B : Nat} {w0 w : World} {vb v : Value} {xs : List Int} (h : FB B w0 vb w v xs) (hB : B ≤ w0.heap.size) : B ≤ w.heap.size := Nat.le_trans hB h.fr.size
theorem FB.src {B : Nat} {w0 w : World} {vb : Value} {A : Option Addr} {L c : Nat} {xs : List Int} (h : FB B w0 vb w (.slice A L c) xs) :
    xs.length = L ∧ (0 < L → ∃ ad, A = some ad ∧ ∀ j, j < L → w.cell? (ad.add j) = some (.int .u8 (xs.getD j 0))) := by
  obtain ⟨A', c', he, hl, _, hr⟩ := own_reads h.own
  injection he with e1 e2 e3
  subst e1
  exact ⟨e2.symm, fun hp => by obtain ⟨ad, ha, hc⟩ := hr (by omega); exact ⟨ad, ha, fun j hj => hc j (by omega)⟩⟩
theorem FB.ne {B : Nat} {w0 w : World} {vb v : Value} {xs : List Int} (h : FB B w0 vb w v xs) {g : Nat} (hn : vb.ownBlock ≠ some g) (hg : g < w0.heap.size) : v.ownBlock ≠ some g := by
  rcases h.at_ with h | ⟨b, h, hb⟩
  · rw [h]; exact hn
  · rw [h]; intro e; injection e with e; omega
theorem own_src {B : Nat} {w : World} {A : Option Addr} {L c : Nat} {xs : List Int} (h : w.ownsRow B 5 1 (.slice A L c) xs.length (nums .u8 xs)) :
    xs.length = L ∧ (0 < L → ∃ ad, A = some ad ∧ ∀ j, j < L → w.cell? (ad.add j) = some (.int .u8 (xs.getD j 0))) := by
  obtain ⟨A', c', he, hl, _, hr⟩ := own_reads h
  injection he with e1 e2 e3
  subst e1
  exact ⟨e2.symm, fun hp => by obtain ⟨ad, ha, hc⟩ := hr (by omega); exact ⟨ad, ha, fun j hj => hc j (by omega)⟩⟩
theorem cut_cell {w : World} {g : Nat} {zs : List Int} (h : BAt w g zs) (a cnt j : Nat) (hc : a + cnt ≤ zs.length) (hj : j < ((zs.drop a).take cnt).length) :
    w.cell? ((⟨g, a, none⟩ : Addr).add j) = some (.int .u8 (((zs.drop a).take cnt).getD j 0)) := by
  have hj2 : j < cnt := by simp at hj; omega
  rw [plain_add, h.cell (a + j) (by omega)]
  congr 2
  rw [List.getD_eq_getElem?_getD, List.getD_eq_getElem?_getD, List.getElem?_take, if_pos hj2, List.getElem?_drop]
theorem FB.far {B : Nat} {w0 w w1 : World} {vb v : Value} {xs : List Int} (h : FB B w0 vb w v xs) {g1 : Nat} (hf : Fr (· = g1) w w1) (hg : w0.heap.size ≤ g1) (hn : v.ownBlock ≠ some g1) : FB B w0 vb w1 v xs :=
  ⟨hf.own h.own (fun k hk he => hn (by rw [hk, he])), h.at_, h.fr.trans hf (fun k hk he => by omega)⟩
/-- What replacePathElement leaves: the path's block g', its content; the buffer. -/
def RP (B : Nat) (w : World) (g : Nat) (vb : Value) (out : List Int) (e : Ending) (w' : World) : Prop :=
  ∃ (g' : Nat) (zs' : List Int) (vb' : Value) (nb' : Nat) (xb' : List Value), e = .returned (.tuple #[.slice (some ⟨g', 0, none⟩) out.length zs'.length, vb', .nilIface]) ∧ BAt w' g' zs' ∧ out.length ≤ zs'.length ∧ zs'.length ≤ 9223372036854775807 ∧ zs'.take out.length = out ∧
    (g' = g ∨ w.heap.size ≤ g') ∧ w'.ownsRow B 5 1 vb' nb' xb' ∧ (vb'.ownBlock = vb.ownBlock ∨ ∃ b, vb'.ownBlock = some b ∧ w.heap.size ≤ b) ∧ vb'.ownBlock ≠ some g' ∧ Fr (fun k => k = g ∨ vb.ownBlock = some k) w w'
end H
end Go.Proofs.YtclmjmfcggkpaaaGreatDoor
