import Derived.Test.YtclmjmfcggkpaaaGreatDoorQ41
import Derived.Test.YtclmjmfcggkpaaaGreatDoorQ49
import Derived.Test.YtclmjmfcggkpaaaGreatDoorQ50
import Derived.Test.YtclmjmfcggkpaaaGreatDoorQ10
set_option linter.unusedVariables false
set_option linter.unusedSimpArgs false
namespace Go.Proofs.YtclmjmfcggkpaaaGreatDoor
open Go.RowKit Go.Proofs.YtclmjmfcggkpaaaGreatDoorW.PrintWords Go.Proofs.YtclmjmfcggkpaaaGreatDoorW.PrintLast Go.Proofs.YtclmjmfcggkpaaaGreatDoorW.PrintMore
open PX
namespace HH
open H
def fitG (f : S48) : Prop := f.f1.size ≤ 2147483647 ∧ f.f2.size ≤ 2147483647 ∧ f.f4.size ≤ 2147483647
theorem f1_from (fs : List S48) (hl : fs.length ≤ 2147483647) : ∀ (n k : Nat), n = fs.length - k → k ≤ fs.length → ∃ b F, laws_zzFits1.l0 F fs (fs.length : Int) (k : Int) = some b ∧ (b = true → ∀ (j : Nat) f, k ≤ j → fs[j]? = some f → fitG f) := by
 intro n
 induction n with
 | zero =>
   intro k hn hk
   exact ⟨true, 1, by rw [laws_zzFits1.l0, if_neg (by omega)], fun _ j f hj hf => by have := (List.getElem?_eq_some_iff.1 hf).1; omega⟩
 | succ n ih =>
   intro k hn hk
   have hlt : k < fs.length := by omega
   obtain ⟨b, F, h1, h2⟩ := ih (k + 1) (by omega) (by omega)
   have hat := rd48_at fs k hlt
   have hstep : ∀ F, laws_zzFits1.l0 (F + 1) fs (fs.length : Int) (k : Int) = ((laws_zzFits2.f ((rd_T48 fs (k : Int)).f0) ((rd_T48 fs (k : Int)).f1) ((rd_T48 fs (k : Int)).f2) ((rd_T48 fs (k : Int)).f3) ((rd_T48 fs (k : Int)).f4) ((rd_T48 fs (k : Int)).f5)).bind fun t => if t = true then (laws_zzFits1.l0 F fs (fs.length : Int) ((k + 1 : Nat) : Int)) else (some false)) := by
    intro F
    rw [laws_zzFits1.l0, if_pos (by omega), if_pos (by omega), if_pos (by omega), wr1' k fs.length hlt (by omega)]
   by_cases hf : fitG (rd_T48 fs (k : Int))
   ·refine ⟨b, F + 1, ?_, fun hb j g hj hg => ?_⟩
    ·rw [hstep]
     unfold laws_zzFits2.f
     obtain ⟨a1, a2, a3⟩ := hf
     rw [if_neg (by omega), if_neg (by omega), if_neg (by omega)]
     simpa using h1
    ·rcases Nat.eq_or_lt_of_le hj with rfl | hj
     ·rw [hat] at hg
      obtain rfl := Option.some.inj hg
      exact hf
     ·exact h2 hb j g hj hg
   ·refine ⟨false, F + 1, ?_, fun hb => by cases hb⟩
    rw [hstep]
    generalize rd_T48 fs (k : Int) = f at *
    have : laws_zzFits2.f f.f0 f.f1 f.f2 f.f3 f.f4 f.f5 = some false := by
     unfold laws_zzFits2.f
     unfold fitG at hf
     split
     ·rfl
     ·split
      ·rfl
      ·split
       ·rfl
       ·exfalso; apply hf; omega
    rw [this]
    rfl
theorem fits1_call (fs : List S48) (A0 : Option Addr) (c0 : Nat) (w : World) (hr : Kd.C k48 w A0 fs.length fs) (hc : fs.length ≤ c0) :
 ∃ b, Calls Tryz.prog 11 #[.slice A0 fs.length c0] w (fun e w' => e = .returned (.bool b) ∧ Below w.heap.size w w') ∧ (b = true → fs.length ≤ 2147483647 ∧ ∀ f ∈ fs, fitG f) := by
 by_cases hl : fs.length ≤ 2147483647
 ·obtain ⟨b, F, h1, h2⟩ := f1_from fs hl fs.length 0 (by omega) (by omega)
  refine ⟨b, laws_zzFits1.calls F A0 c0 fs b w hr hc ?_, fun hb => ⟨hl, fun f hf => ?_⟩⟩
  ·unfold laws_zzFits1.f
   rw [if_neg (by omega)]
   exact h1
  ·obtain ⟨j, hj⟩ := List.mem_iff_getElem?.1 hf
   exact h2 hb j f (Nat.zero_le _) hj
 ·exact ⟨false, laws_zzFits1.calls 0 A0 c0 fs false w hr hc (by unfold laws_zzFits1.f; rw [if_pos (by omega)]), fun hb => by cases hb⟩
/-! ### What Bind and HeadersOf make are the same -/
def putG (T : ByteArray → Option (List ByteArray)) (f : S48) : ByteArray → Option (List ByteArray) := putT T (hkey f.f0 f.f1 f.f2) (txt f.f3 f.f4 f.f5) (decide (f.f0 = 4) || decide (f.f0 = 6))
def TT (bef : List S73) (fs : List S48) (i : Nat) : ByteArray → Option (List ByteArray) := (fs.take i).foldl putG (lk bef)
theorem adds_eq (wh : Int) : adds wh = (decide (wh = 4) || decide (wh = 6)) := by
 unfold adds
 rw [← Bool.beq_eq_decide_eq, ← Bool.beq_eq_decide_eq]
theorem putF_lk {L : List S73} {T : ByteArray → Option (List ByteArray)} (h : srt L) (e : ∀ q, lk L q = T q) (f : S48) (q : ByteArray) : lk (putF L f) q = putG T f q := by
 unfold putF putG putT upT
 rw [putH_lk h, e, e, adds_eq]
theorem lk_fs {L : List S73} {T0 : ByteArray → Option (List ByteArray)} (fs : List S48) {n N : Nat} (h : Ok3 L n N) (h0 : ∀ q, lk L q = T0 q) : ∀ k, k ≤ fs.length → ∀ q, lk ((fs.take k).foldl putF L) q = (fs.take k).foldl putG T0 q := by
 intro k
 induction k with
 | zero => intro _ q; exact h0 q
 | succ k ih =>
   intro hk q
   have e : ∀ q, lk ((fs.take k).foldl putF L) q = (fs.take k).foldl putG T0 q := ih (by omega)
   rw [fold_take putF L (rd48_at fs k (by omega)), fold_take putG T0 (rd48_at fs k (by omega))]
   exact putF_lk (ok3_fs fs h k (by omega)).s e _ q
theorem TT_succ (bef : List S73) (fs : List S48) (i : Nat) (hi : i < fs.length) : TT bef fs (i + 1) = putG (TT bef fs i) (rd_T48 fs (i : Int)) := by
 unfold TT
 rw [fold_take putG _ (rd48_at fs i hi)]
theorem TT_lk {bef : List S73} (fs : List S48) (hnd : (bef.map (·.f0)).Nodup) (hbl : ∀ h ∈ bef, h.f1.length ≤ 100) (i : Nat) (hi : i ≤ fs.length) (q : ByteArray) : TT bef fs i q = lk ((fs.take i).foldl putF (bef.foldl putB [])) q := by
 have h3 := ok3_bef bef hbl bef.length (Nat.le_refl _)
 have h0 := lk_bef hnd hbl bef.length (Nat.le_refl _)
 rw [List.take_length] at h3 h0
 exact (lk_fs fs h3 h0 i hi q).symm
theorem outH_ok {bef : List S73} {fs : List S48} (hbl : ∀ h ∈ bef, h.f1.length ≤ 100) (i : Nat) (hi : i ≤ fs.length) : Ok3 ((fs.take i).foldl putF (bef.foldl putB [])) (bef.length + i) (bef.length * 100 + i) := by
 have h3 := ok3_bef bef hbl bef.length (Nat.le_refl _)
 rw [List.take_length] at h3
 exact ok3_fs fs h3 i hi
theorem TT_len {bef : List S73} {fs : List S48} (hnd : (bef.map (·.f0)).Nodup) (hbl : ∀ h ∈ bef, h.f1.length ≤ 100) (hn0 : bef.length ≤ 100) (hn1 : fs.length ≤ 100) (i : Nat) (hi : i ≤ fs.length) (k : ByteArray) (x : List ByteArray) (h : TT bef fs i k = some x) : x.length ≤ 1000000 := by
 rw [TT_lk fs hnd hbl i hi] at h
 obtain ⟨a, ha, _, e⟩ := lk_mem h
 have := (outH_ok hbl i hi).v a ha
 rw [e] at this
 omega
theorem TT_none {bef : List S73} {fs : List S48} (H : AreH bef fs) : ∀ i, i ≤ fs.length → TT bef fs i CL = none := by
 intro i
 induction i with
 | zero => intro _; exact lk_not (fun a ha => (H.hs a ha).not)
 | succ i ih =>
   intro hi
   rw [TT_succ bef fs i (by omega)]
   unfold putG putT upT
   rw [if_neg (H.fs _ (List.mem_of_getElem? (rd48_at fs i (by omega)))).not]
   exact ih (by omega)
/-- The headers that Bind hands back are those of HeadersOf. -/
theorem same_out {bef : List S73} {fs : List S48} (hnd : (bef.map (·.f0)).Nodup) (hbl : ∀ h ∈ bef, h.f1.length ≤ 100) {l : List S73} (hs : srt l) (hl : ∀ k, lk l k = TT bef fs fs.length k) : l = outH bef fs := by
 have h := outH_ok (fs := fs) hbl fs.length (Nat.le_refl _)
 rw [List.take_length] at h
 refine srt_ext hs h.s (fun k => (hl k).trans ?_)
 rw [TT_lk fs hnd hbl fs.length (Nat.le_refl _), List.take_length]
 rfl
theorem outH_val {bef : List S73} {fs : List S48} (hbl : ∀ h ∈ bef, h.f1.length ≤ 100) (hn0 : bef.length ≤ 100) (hn1 : fs.length ≤ 100) : ∀ h ∈ outH bef fs, h.f1.length ≤ 9223372036854775807 := by
 have h := outH_ok (fs := fs) hbl fs.length (Nat.le_refl _)
 rw [List.take_length] at h
 intro a ha
 have := h.v a ha
 omega
end HH
end Go.Proofs.YtclmjmfcggkpaaaGreatDoor
set_option linter.unusedVariables false
set_option linter.unusedSimpArgs false
namespace Go.Proofs.YtclmjmfcggkpaaaGreatDoor
open Go.RowKit Go.Proofs.YtclmjmfcggkpaaaGreatDoorW.PrintWords Go.Proofs.YtclmjmfcggkpaaaGreatDoorW.PrintLast Go.Proofs.YtclmjmfcggkpaaaGreatDoorW.PrintMore
open PX
namespace HH
open H
/-! ### The laws FnHeaders and FnContentLength, walked -/
structure En (w w' : World) (bef : List S73) (Ab : Option Addr) (fs : List S48) (A0 : Option Addr) : Prop where
 below : Below w.heap.size w w'
 tab : Tab w'
 pow : Pow w'
 spc : Spc w'
 rb : Kd.C k73 w' Ab bef.length bef
 rf : Kd.C k48 w' A0 fs.length fs
theorem En.call {w w' w'' : World} {bef : List S73} {Ab : Option Addr} {fs : List S48} {A0 : Option Addr} (h : En w w' bef Ab fs A0) (hb : Below w'.heap.size w' w'') : En w w'' bef Ab fs A0 :=
 ⟨below_then h.below h.below.size hb, h.tab.below hb h.tab.lt, h.pow.below hb, h.spc.calm hb, Kd.C_below h.rb hb, Kd.C_below h.rf hb⟩
theorem En.works {w w' : World} {bef : List S73} {Ab : Option Addr} {fs : List S48} {A0 : Option Addr} (h : En w w' bef Ab fs A0) : Calls Tryz.prog 17 #[] w' fun e w'' => e = .returned (.bool true) ∧ Below w'.heap.size w' w'' := works_call w' h.tab
theorem bind_hd {bef : List S73} {fs : List S48} (H : AreH bef fs) (hff : ∀ f ∈ fs, fitG f) (hnn : ∀ f ∈ fs, -9223372036854775808 ≤ f.f5 ∧ f.f5 ≤ 9223372036854775807) {Ab A0 : Option Addr} {cb c0 : Nat} {w0 w : World} (hcb : bef.length ≤ cb) (hc0 : fs.length ≤ c0) (E : En w0 w bef Ab fs A0) :
 Calls Tryz.prog 18 #[.string ⟨#[47]⟩, .string ⟨#[]⟩, .slice Ab bef.length cb, .slice A0 fs.length c0] w fun e w' => ∃ A c, e = .returned (.tuple #[.agg #[.string ⟨#[47]⟩, .string ⟨#[47]⟩, .string ⟨#[47]⟩, .string ⟨#[]⟩, .slice A (outH bef fs).length c, .int .i64 0], .bool true]) ∧ (outH bef fs).length ≤ c ∧ Kd.C k73 w' A (outH bef fs).length (outH bef fs) ∧ Below w.heap.size w w' := by
 have hbl : ∀ h ∈ bef, h.f1.length ≤ 100 := fun h hh => (H.hs h hh).few
 refine (bind_hdr bef fs Ab A0 cb c0 (TT bef fs) 0 (TT bef fs fs.length) w E.tab E.pow E.spc E.rb hcb E.rf hc0 H.n0 H.n1 H.nd hbl (fun k => rfl) (fun i hi k x => TT_len H.nd hbl H.n0 H.n1 i hi k x) (fun k x => TT_len H.nd hbl H.n0 H.n1 fs.length (Nat.le_refl _) k x) ?_ ?_).mono ?_
 ·intro i hi C eb mh n w' hM hc hP' hS'
  have hat := rd48_at fs i hi
  have hF := H.fs _ (List.mem_of_getElem? hat)
  have hg := hff _ (List.mem_of_getElem? hat)
  have hnu := hnn _ (List.mem_of_getElem? hat)
  rw [TT_succ bef fs i hi]
  unfold FS
  refine put_hdr hM hP' hS' hc _ hF.wh _ _ (hn_noSp hF.key) (fun h5 => ?_) (by have := hg.1; have := hg.2.1; omega) _ hF.kind _ _ hnu hg.2.2
  have := hn_noSp hF.name
  unfold hkey at this
  rw [if_pos h5] at this
  exact noSp_left this
 ·intro C eb qm hm n X rb ub w' he hh hXu hXr hXe hR hU
  have h := encode_hdr he hh (TT_none H fs.length (Nat.le_refl _)) rb ub hXu hXr hXe _ _ hR hU rfl _ _ _ _ _ rfl rfl rfl rfl rfl
  refine h.mono ?_
  rintro e w2 ⟨he2, q1, q2, q3, q4⟩
  exact ⟨he2, q1, q2, q3, q4.mono (fun k _ hk => by rcases hk with h | h; exact .inl h; exact .inr (.inl h))⟩
 ·rintro e w' ⟨A, c, l, he, hc, hC, hs, hl, hb⟩
  obtain rfl := same_out H.nd hbl hs hl
  exact ⟨A, c, he, hc, hC, hb⟩
theorem two {w : World} {fb : Nat} {a b c d e f : Value} {t : TypeId} {z : Nat × Nat} (h : w.heap[fb]? = some (.cells #[a, b, c, d, e, f] t z)) :
 w.cell? ⟨fb, 4, none⟩ = some e ∧ w.cell? ⟨fb, 5, none⟩ = some f := ⟨(six h).2.2.2.2.1, (six h).2.2.2.2.2⟩
set_option maxHeartbeats 4000000 in
set_option maxRecDepth 100000 in
theorem fnHeaders (bef : List S73) (Ab : Option Addr) (cb : Nat) (fs : List S48) (A0 : Option Addr) (c0 : Nat) (w : World) (hrb : Kd.C k73 w Ab bef.length bef) (hcb : bef.length ≤ cb) (hr : Kd.C k48 w A0 fs.length fs) (hc : fs.length ≤ c0) (hn : ∀ f ∈ fs, -9223372036854775808 ≤ f.f5 ∧ f.f5 ≤ 9223372036854775807) (hT : Tab w) (hP : Pow w) (hS : Spc w) :
 Calls Tryz.prog 6 #[.slice Ab bef.length cb, .slice A0 fs.length c0] w fun e w' => e = .returned (.bool true) ∧ Below w.heap.size w w' := by
 have HE : Aside0 (En w w bef Ab fs A0) := .mk ⟨Below.refl _ _, hT, hP, hS, hrb, hr⟩
 obtain ⟨b5, h27, hfit5⟩ := fits5_call bef Ab cb w hrb hcb
 replace h27 := Aside0.mk h27
 clear hT hP hS
 replace hr := Aside0.mk hr; replace hn := Aside0.mk hn; replace hrb := Aside0.mk hrb
 cases b5 with
 | false =>
   clear hfit5
   go_enter Tryz.func6, Tryz.ntmps6
   go_wp2_with fail
   refine h27.out.mono ?_
   rintro e w1 ⟨rfl, hb1⟩
   go_wp2
   go_ret
   exact ⟨rfl, hb1⟩
 | true =>
   obtain ⟨hl5, hff5⟩ := hfit5 rfl
   replace hff5 := Aside0.mk hff5
   go_enter Tryz.func6, Tryz.ntmps6
   go_wp2_with fail
   refine h27.out.mono ?_
   rintro e w1 ⟨rfl, hb1⟩
   have HE1 := Aside0.mk (HE.out.call hb1)
   clear hb1 h27
   obtain ⟨b1, h11, hfit1⟩ := fits1_call fs A0 c0 w1 HE1.out.rf hc
   replace h11 := Aside0.mk h11
   cases b1 with
   | false =>
     clear hfit1
     go_wp2_with fail
     refine h11.out.mono ?_
     rintro e w2 ⟨rfl, hb2⟩
     have HE2 := Aside0.mk (HE1.out.call hb2)
     clear hb2
     go_wp2
     go_ret
     exact ⟨rfl, HE2.out.below⟩
   | true =>
     obtain ⟨hl1, hff1⟩ := hfit1 rfl
     replace hff1 := Aside0.mk hff1
     clear hfit1
     go_wp2_with fail
     refine h11.out.mono ?_
     rintro e w2 ⟨rfl, hb2⟩
     have HE2 := Aside0.mk (HE1.out.call hb2)
     clear hb2 h11
     obtain ⟨F, b, hF, hA⟩ := are_eq bef fs hl5 (fun h hh => hff5.out h hh) hl1 (fun f hf => ⟨(hff1.out f hf).1, (hff1.out f hf).2.1⟩)
     replace hF := Aside0.mk hF
     replace hA := Aside0.mk hA
     go_wp2_with fail
     refine (spec_AreHeaders.calls F Ab cb bef A0 c0 fs b w2 HE2.out.rb hcb HE2.out.rf hc hF.out).mono ?_
     rintro e w3 ⟨rfl, hb3⟩
     have HE3 := Aside0.mk (HE2.out.call hb3)
     clear hb3 hF
     cases b with
     | false =>
       go_wp2_with fail
       refine HE3.out.works.mono ?_
       rintro e w4 ⟨rfl, hb4⟩
       have HE4 := Aside0.mk (HE3.out.call hb4)
       clear hb4
       go_wp2
       go_ret
       exact ⟨rfl, HE4.out.below⟩
     | true =>
       have H := Aside0.mk (hA.out rfl)
       clear hA
       go_wp2_with fail
       refine (bind_hd H.out hff1.out hn.out hcb hc HE3.out).mono ?_
       rintro e w4 ⟨A, c, rfl, hcl, hC, hb4⟩
       have HE4 := Aside0.mk (HE3.out.call hb4)
       have hbl : Aside0 (∀ h ∈ bef, h.f1.length ≤ 100) := .mk (fun h hh => (H.out.hs h hh).few)
       have hval := Aside0.mk (outH_val (fs := fs) hbl.out H.out.n0 H.out.n1)
       obtain ⟨L, hL⟩ : ∃ L, L = outH bef fs := ⟨_, rfl⟩
       rw [← hL] at hcl hC hval
       simp only [← hL]
       replace hL := Aside0.mk hL
       replace hC := Aside0.mk hC
       replace hcl := Aside0.mk hcl
       clear hb4
       go_wp2_with fail
       have hbx := heap_new w4 (.cells #[.string ⟨#[47]⟩, .string ⟨#[47]⟩, .string ⟨#[47]⟩, .string ⟨#[]⟩, .slice A L.length c, .int .i64 0] 33)
       have hb5 := below_alloc (Below.refl w4.heap.size w4) (.cells #[.string ⟨#[47]⟩, .string ⟨#[47]⟩, .string ⟨#[47]⟩, .string ⟨#[]⟩, .slice A L.length c, .int .i64 0] 33)
       have HE5 := Aside0.mk (HE4.out.call hb5)
       have hC5 := Aside0.mk (Kd.C_below hC.out hb5)
       generalize w4.alloc (.cells #[.string ⟨#[47]⟩, .string ⟨#[47]⟩, .string ⟨#[47]⟩, .string ⟨#[]⟩, .slice A L.length c, .int .i64 0] 33) = w5 at *
       generalize w4.heap.size = fb at *
       replace hbx := Aside0.mk hbx
       clear hb5 HE4 hC
       refine wp_region_noPanic ?_
       refine wp_region_held_drew (S := fun w' => w'.cell? ⟨fb, 4, none⟩ = some (.slice A L.length c) ∧ w'.cell? ⟨fb, 5, none⟩ = some (.int .i64 0)) (by kernel_rfl) (two hbx.out) (fun hHeld => ?_)
       refine rd1 0 (fun K hK => ?_)
       go_simp
       have HE5' : En w w5.drew bef Ab fs A0 := ⟨⟨HE5.out.below.os, HE5.out.below.tape, HE5.out.below.output, HE5.out.below.size, HE5.out.below.block⟩, HE5.out.tab, HE5.out.pow, HE5.out.spc, HE5.out.rb, HE5.out.rf⟩
       refine HE5'.works.mono ?_
       rintro e u1 ⟨rfl, hb6⟩
       have HE6 := Aside0.mk (HE5'.call hb6)
       have hbx6 := Aside0.mk (heap_below hb6 hbx.out)
       have hC6 := Aside0.mk (Kd.C_below (show Kd.C k73 w5.drew A L.length L from hC5.out) hb6)
       clear hb6 HE5'
       go_simp
       refine hK.out _ _ (two hbx6.out) (fun hHeld => ?_)
       clear hK K
       skip
       refine tk 1 ?_
       refine tk 2 ?_
       refine tk 3 ?_
       refine tk 4 ?_
       refine tk 5 ?_
       refine tk 6 ?_
       refine tk 7 ?_
       refine tk 8 ?_
       refine rd1 9 (fun K hK => ?_)
       go_simp
       refine (hdrs_call bef fs Ab A0 cb c0 u1 HE6.out.rb hcb HE6.out.rf hc H.out.n0 H.out.n1 hbl.out (fun f hf => ⟨(H.out.fs f hf).wh, (H.out.fs f hf).kind, (hff1.out f hf).1, (hff1.out f hf).2.1, (hff1.out f hf).2.2, hn.out f hf⟩)).mono ?_
       rintro e u2 ⟨A2, c2, l2, rfl, hc2, hC2, hl2, hb7⟩
       have hl3 := hl2.trans hL.out.symm
       clear hl2
       subst hl3
       have HE7 := Aside0.mk (HE6.out.call hb7)
       have hbx7 := Aside0.mk (heap_below hb7 hbx6.out)
       have hC7 := Aside0.mk (Kd.C_below hC6.out hb7)
       replace hC2 := Aside0.mk hC2
       clear hb7
       go_simp
       refine hK.out _ _ (two hbx7.out) (fun hHeld => ?_)
       clear hK K
       skip

       refine rd1 10 (fun K hK => ?_)
       go_simp
       refine (same_call A c A2 c2 l2 u2 hC7.out hcl.out hC2.out hc2 hval.out).mono ?_
       rintro e u3 ⟨rfl, hb8⟩
       have HE8 := Aside0.mk (HE7.out.call hb8)
       have hbx8 := Aside0.mk (heap_below hb8 hbx7.out)
       clear hb8
       go_simp
       refine hK.out _ _ (two hbx8.out) (fun hHeld => ?_)
       clear hK K
       skip
       refine tk 11 ?_
       refine tk 12 ?_
       refine tk 13 ?_
       refine tk 14 ?_
       refine tk 15 ?_
       refine tk 16 ?_
       refine rd1 17 (fun K hK => ?_)
       go_simp
       refine hK.out _ _ (two hbx8.out) (fun hHeld => ?_)
       clear hK K
       skip
       refine wpAnyH_done (by kernel_rfl) ?_ _
       refine NoPanic.normal ?_
       clear hHeld
       go_wp2
       go_ret
       exact ⟨rfl, HE8.out.below⟩
end HH
end Go.Proofs.YtclmjmfcggkpaaaGreatDoor
