import Derived.Test.YtclmjmfcggkpaaaGreatDoorU14
import Derived.Test.YtclmjmfcggkpaaaGreatDoorU16
import Derived.Deep.RegionHeld3
set_option linter.unusedVariables false
set_option linter.unusedSimpArgs false
namespace Go.Proofs.YtclmjmfcggkpaaaGreatDoor
open Go.RowKit Go.Proofs.YtclmjmfcggkpaaaGreatDoorW.PrintWords Go.Proofs.YtclmjmfcggkpaaaGreatDoorW.PrintLast Go.Proofs.YtclmjmfcggkpaaaGreatDoorW.PrintMore
namespace H
set_option maxHeartbeats 4000000 in
set_option maxRecDepth 100000 in
theorem modify (gr : Bool) (B eb : Nat) (q h : Value) (p r : List Int) (key val : ByteArray) (k1 k2 : Nat) (w : World)
 (he : EncS B eb q h p r w) (hk : key.size ≤ 1000) (hv : val.size ≤ 1000) (hp : p.length ≤ 1099511627776) (hr : r.length ≤ 1099511627776) (h1 : Idx p key gr k1) (h2 : Idx r key gr k2)
 (po ro : List Int) (hpo : po = rep p key gr k1 (vesc gr false val)) (hro : ro = rep r key gr k2 (vesc gr true val)) :
 Calls Tryz.prog 139 #[.agg #[.pointer (some ⟨eb, 0, none⟩), .pointer (some ⟨eb, 1, none⟩), .pointer (some ⟨eb, 2, none⟩), .string key], .string val] w fun e w' =>
  e = .returned .nilIface ∧ EncS B eb q h po ro w' ∧ Fr (Er B eb w) w w' := by
 obtain ⟨pv1, rv1, vb1, g1, g2, nb1, xb1, hE, hP, hR, hg, hn1, hn2, ho, hB, hBe⟩ := he
 have hlt := lt_of hE
 have hAE := Aside0.mk hE; have hAP := Aside0.mk hP; have hAR := Aside0.mk hR; have hAo := Aside0.mk ho; clear hE hP hR ho
 replace hpo := Aside0.mk hpo
 replace hro := Aside0.mk hro
 go_enter Tryz.func139, Tryz.ntmps139
 go_wp2_with fail
 have hu := heap_new w (.cells #[.pointer (some ⟨eb, 0, none⟩), .pointer (some ⟨eb, 1, none⟩), .pointer (some ⟨eb, 2, none⟩), .string key] 116)
 have hE1 := heap_old hAE.out (.cells #[.pointer (some ⟨eb, 0, none⟩), .pointer (some ⟨eb, 1, none⟩), .pointer (some ⟨eb, 2, none⟩), .string key] 116)
 have hb1 := below_alloc (Below.refl w.heap.size w) (.cells #[.pointer (some ⟨eb, 0, none⟩), .pointer (some ⟨eb, 1, none⟩), .pointer (some ⟨eb, 2, none⟩), .string key] 116)
 generalize w.alloc (.cells #[.pointer (some ⟨eb, 0, none⟩), .pointer (some ⟨eb, 1, none⟩), .pointer (some ⟨eb, 2, none⟩), .string key] 116) = w1 at *
 have hF1 : Fr (Er B eb w) w w1 := Fr.of_below hb1
 have hR1 : Aside0 (Row B w1 rv1 g2 r) := .mk (hAR.out.fr (Fr.of_below (S := fun _ => False) hb1) (fun h => h))
 have ho1 : Aside0 (w1.ownsRow B 5 1 vb1 nb1 xb1) := .mk (pw_own_below hAo.out hb1)
 obtain ⟨zs1, hpv, hz1, hl1, hm1, ht1, hBg1⟩ := hAP.out.fr (Fr.of_below (S := fun _ => False) hb1) (fun h => h)
 clear hAP hAE hAR hAo
 subst hpv
 replace hz1 := Aside0.mk hz1; replace ht1 := Aside0.mk ht1
 have hB1 : B ≤ w1.heap.size := Nat.le_trans hB hb1.size
 have hne : ¬ eb = w.heap.size := by omega
 generalize w.heap.size = ub at *
 have hu1 := Aside0.mk hu; replace hE1 := Aside0.mk hE1; clear hu
 have ca1 := cell_at hE1.out 0; have cb1 := cell_at hE1.out 2
 simp at ca1 cb1
 have hc1 : Aside0 (Calls Tryz.prog 164 #[.slice (some ⟨g1, 0, none⟩) p.length zs1.length, vb1, .string key, .string val, .bool false] w1.drew (RP B w1.drew g1 vb1 po)) :=
  .mk (rpe gr false B g1 p.length zs1 vb1 nb1 xb1 key val k1 w1.drew hz1.out hl1 hm1 hp ho1.out hB1 hn1 hk hv (by rw [ht1.out]; exact h1) po (by rw [ht1.out]; exact hpo.out))
 have keep1 : Aside0 (∀ w2, Fr (fun k => k = g1 ∨ vb1.ownBlock = some k) w1.drew w2 → w2.heap[ub]? = w1.heap[ub]? ∧ w2.heap[eb]? = w1.heap[eb]?) := .mk (fun w2 hf => by
  refine ⟨hf.block _ (lt_of hu1.out) ?_, hf.block _ (lt_of hE1.out) ?_⟩
  ·rintro (h | h)
   ·subst h; obtain ⟨fr, h, _⟩ := hz1.out; rw [hu1.out] at h; simp at h
   ·obtain ⟨_, cs, fr, h⟩ := own_typ ho1.out _ h; rw [hu1.out] at h; simp at h
  ·rintro (h | h)
   ·subst h; obtain ⟨fr, h, _⟩ := hz1.out; rw [hE1.out] at h; simp at h
   ·obtain ⟨_, cs, fr, h⟩ := own_typ ho1.out _ h; rw [hE1.out] at h; simp at h)
 have u01 := cell_at hu1.out 0; have u21 := cell_at hu1.out 2; have u31 := cell_at hu1.out 3
 simp at u01 u21 u31
 refine wp_region_noPanic ?_
 refine wp_region_held_drew (S := fun w' => w'.cell? ⟨ub, 0, none⟩ = some (.pointer (some ⟨eb, 0, none⟩)) ∧ w'.cell? ⟨ub, 2, none⟩ = some (.pointer (some ⟨eb, 2, none⟩)) ∧ w'.cell? ⟨ub, 3, none⟩ = some (.string key)) (by kernel_rfl) (by go_keep) (fun hHeld => ?_)
 refine tk 0 ?_
 refine tk 1 ?_
 refine tk 2 ?_
 refine tk 3 ?_
 refine tk 4 ?_
 refine tk 5 ?_
 refine tk 6 ?_
 refine tk 8 ?_
 refine tk 9 ?_
 refine tk 10 ?_
 refine tk 12 ?_
 refine tk 13 ?_
 refine tk 14 ?_
 refine wpAnyH_ready (rs := [7, 11]) (by kernel_rfl) (by simp) ?_
 refine AllReadyH.cons rfl (fun K hK => ?_) (AllReadyH.cons rfl (fun K hK => ?_) AllReadyH.nil)
 ·go_simp
  refine hK.out _ _ (by go_keep) (fun hHeld => ?_)
  clear hK K
  skip
  refine rd1 11 (fun K hK => ?_)
  go_simp
  refine hK.out _ _ (by go_keep) (fun hHeld => ?_)
  clear hK K
  skip
  refine rd1 15 (fun K hK => ?_)
  go_simp
  refine hc1.out.mono ?_
  rintro e w21 ⟨g', zs', vb', nb', xb', rfl, q1, q2, q3, q4, q5, q6, q7, q8, q9⟩
  obtain ⟨A, c, rfl⟩ := own_slice q6
  obtain ⟨k1, k2⟩ := keep1.out w21 q9
  rw [hu1.out] at k1
  rw [hE1.out] at k2
  have u0' := cell_at k1 0
  have u2' := cell_at k1 2
  have u3' := cell_at k1 3
  simp at u0' u2' u3'
  have d0 := cell_at k2 0
  have d2 := cell_at k2 2
  simp at d0 d2
  have s2 := fun X => cell_at (heap_set k2 0 X) 2
  have s0 := fun X => cell_at (heap_set k2 2 X) 0
  have t2 := fun X => free_of (heap_set k2 0 X) 2
  have t0 := fun X => free_of (heap_set k2 2 X) 0
  simp at s2 s0 t2 t0
  have f0' := free_of k2 0
  have f2' := free_of k2 2
  replace q1 := Aside0.mk q1; replace k1 := Aside0.mk k1; replace k2 := Aside0.mk k2; replace q4 := Aside0.mk q4; replace q6 := Aside0.mk q6; replace q7 := Aside0.mk q7
  try go_wp2_with fail
  refine hK.out _ _ (by go_keep) (fun hHeld => ?_)
  clear hK K
  skip
  refine tk 16 ?_
  refine tk 17 ?_
  refine tk 18 ?_
  refine tk 19 ?_
  refine tk 20 ?_
  refine rd1 21 (fun K hK => ?_)
  go_simp
  refine hK.out _ _ (by go_keep) (fun hHeld => ?_)
  clear hK K
  skip
  refine tk 22 ?_
  refine rd1 23 (fun K hK => ?_)
  go_simp
  refine hK.out _ _ (by go_keep) (fun hHeld => ?_)
  clear hK K
  skip
  refine tk 24 ?_
  refine wpAnyH_done (by kernel_rfl) ?_ _
  refine NoPanic.normal ?_
  have hfin := enc_side 0 (by omega) (w1 := w1.drew) hE1.out hz1.out hR1.out rfl hg hn1 hn2 ho1.out hB1 hBe hBg1 q1.out q2 q3 q4.out q5 q6.out q7.out q8 q9
  have hu3 := heap_far (heap_far k1.out (p := ⟨eb, 0, none⟩) (fun h => hne h.symm) (.slice (some ⟨g', 0, none⟩) po.length zs'.length)) (p := ⟨eb, 2, none⟩) (fun h => hne h.symm) (.slice A nb' c)
  simp only [if_true] at hfin
  generalize ((w21.setCell ⟨eb, 0, none⟩ (.slice (some ⟨g', 0, none⟩) po.length zs'.length)).setCell ⟨eb, 2, none⟩ (.slice A nb' c)) = w3 at *
  obtain ⟨hS3, hF3⟩ := hfin
  have hF3' : Fr (Er B eb w) w w3 := Er.trans hF1.drew hF3
  clear ca1 cb1 hc1 keep1 u01 u21 u31 k1 k2 q1 q2 q3 q4 q5 q6 q7 q8 q9 hF3 u0' u2' u3' d0 d2 s2 s0 t2 t0 f0' f2'
  go_wp2_with fail
  clear hE1 hz1 hR1 hg hn1 hn2 ho1 hB1 hBg1 hl1 hm1 ht1 hu1
  obtain ⟨pv2, rv2, vb2, gg, g2, nb2, xb2, hE2, hP, hR, hg, hn1, hn2, ho2, hB2, _⟩ := hS3
  obtain ⟨zs2, rfl, hz2, hl2, hm2, ht2, hBg2⟩ := hR
  replace hz2 := Aside0.mk hz2; replace ht2 := Aside0.mk ht2; replace hP := Aside0.mk hP; replace ho2 := Aside0.mk ho2; replace hE2 := Aside0.mk hE2
  have hu2 := Aside0.mk hu3; clear hu3
  have ca2 := cell_at hE2.out 1; have cb2 := cell_at hE2.out 2
  simp at ca2 cb2
  have hc2 : Aside0 (Calls Tryz.prog 164 #[.slice (some ⟨g2, 0, none⟩) r.length zs2.length, vb2, .string key, .string val, .bool true] w3.drew (RP B w3.drew g2 vb2 ro)) :=
   .mk (rpe gr true B g2 r.length zs2 vb2 nb2 xb2 key val k2 w3.drew hz2.out hl2 hm2 hr ho2.out hB2 hn2 hk hv (by rw [ht2.out]; exact h2) ro (by rw [ht2.out]; exact hro.out))
  have keep2 : Aside0 (∀ w2, Fr (fun k => k = g2 ∨ vb2.ownBlock = some k) w3.drew w2 → w2.heap[ub]? = w3.heap[ub]? ∧ w2.heap[eb]? = w3.heap[eb]?) := .mk (fun w2 hf => by
   refine ⟨hf.block _ (lt_of hu2.out) ?_, hf.block _ (lt_of hE2.out) ?_⟩
   ·rintro (h | h)
    ·subst h; obtain ⟨fr, h, _⟩ := hz2.out; rw [hu2.out] at h; simp at h
    ·obtain ⟨_, cs, fr, h⟩ := own_typ ho2.out _ h; rw [hu2.out] at h; simp at h
   ·rintro (h | h)
    ·subst h; obtain ⟨fr, h, _⟩ := hz2.out; rw [hE2.out] at h; simp at h
    ·obtain ⟨_, cs, fr, h⟩ := own_typ ho2.out _ h; rw [hE2.out] at h; simp at h)
  have u02 := cell_at hu2.out 1; have u22 := cell_at hu2.out 2; have u32 := cell_at hu2.out 3
  simp at u02 u22 u32
  refine wp_region_noPanic ?_
  refine wp_region_held_drew (S := fun w' => w'.cell? ⟨ub, 1, none⟩ = some (.pointer (some ⟨eb, 1, none⟩)) ∧ w'.cell? ⟨ub, 2, none⟩ = some (.pointer (some ⟨eb, 2, none⟩)) ∧ w'.cell? ⟨ub, 3, none⟩ = some (.string key)) (by kernel_rfl) (by go_keep) (fun hHeld => ?_)
  refine tk 0 ?_
  refine tk 1 ?_
  refine tk 2 ?_
  refine tk 3 ?_
  refine tk 4 ?_
  refine tk 5 ?_
  refine tk 6 ?_
  refine tk 8 ?_
  refine tk 9 ?_
  refine tk 10 ?_
  refine tk 12 ?_
  refine tk 13 ?_
  refine tk 14 ?_
  refine wpAnyH_ready (rs := [7, 11]) (by kernel_rfl) (by simp) ?_
  refine AllReadyH.cons rfl (fun K hK => ?_) (AllReadyH.cons rfl (fun K hK => ?_) AllReadyH.nil)
  ·go_simp
   refine hK.out _ _ (by go_keep) (fun hHeld => ?_)
   clear hK K
   skip
   refine rd1 11 (fun K hK => ?_)
   go_simp
   refine hK.out _ _ (by go_keep) (fun hHeld => ?_)
   clear hK K
   skip
   refine rd1 15 (fun K hK => ?_)
   go_simp
   refine hc2.out.mono ?_
   rintro e w22 ⟨g', zs', vb', nb', xb', rfl, q1, q2, q3, q4, q5, q6, q7, q8, q9⟩
   obtain ⟨A, c, rfl⟩ := own_slice q6
   obtain ⟨k1, k2⟩ := keep2.out w22 q9
   rw [hu2.out] at k1
   rw [hE2.out] at k2
   have u0' := cell_at k1 1
   have u2' := cell_at k1 2
   have u3' := cell_at k1 3
   simp at u0' u2' u3'
   have d0 := cell_at k2 1
   have d2 := cell_at k2 2
   simp at d0 d2
   have s2 := fun X => cell_at (heap_set k2 1 X) 2
   have s0 := fun X => cell_at (heap_set k2 2 X) 1
   have t2 := fun X => free_of (heap_set k2 1 X) 2
   have t0 := fun X => free_of (heap_set k2 2 X) 1
   simp at s2 s0 t2 t0
   have f0' := free_of k2 1
   have f2' := free_of k2 2
   replace q1 := Aside0.mk q1; replace k1 := Aside0.mk k1; replace k2 := Aside0.mk k2; replace q4 := Aside0.mk q4; replace q6 := Aside0.mk q6; replace q7 := Aside0.mk q7
   try go_wp2_with fail
   refine hK.out _ _ (by go_keep) (fun hHeld => ?_)
   clear hK K
   skip
   refine tk 16 ?_
   refine tk 17 ?_
   refine tk 18 ?_
   refine tk 19 ?_
   refine tk 20 ?_
   refine rd1 21 (fun K hK => ?_)
   go_simp
   refine hK.out _ _ (by go_keep) (fun hHeld => ?_)
   clear hK K
   skip
   refine tk 22 ?_
   refine rd1 23 (fun K hK => ?_)
   go_simp
   refine hK.out _ _ (by go_keep) (fun hHeld => ?_)
   clear hK K
   skip
   refine tk 24 ?_
   refine wpAnyH_done (by kernel_rfl) ?_ _
   refine NoPanic.normal ?_
   have hfin := enc_side 1 (by omega) (w1 := w3.drew) hE2.out hz2.out hP.out rfl hg.symm hn2 hn1 ho2.out hB2 hBe hBg2 q1.out q2 q3 q4.out q5 q6.out q7.out q8 q9
   simp only [Nat.one_ne_zero, if_false] at hfin
   obtain ⟨hS3, hF3⟩ := hfin
   have hF4 := Er.trans hF3'.drew hF3
   go_wp2
   go_ret
   exact ⟨rfl, hS3, hF4⟩
  ·go_simp
   refine hK.out _ _ (by go_keep) (fun hHeld => ?_)
   clear hK K
   skip
   refine rd1 7 (fun K hK => ?_)
   go_simp
   refine hK.out _ _ (by go_keep) (fun hHeld => ?_)
   clear hK K
   skip
   refine rd1 15 (fun K hK => ?_)
   go_simp
   refine hc2.out.mono ?_
   rintro e w22 ⟨g', zs', vb', nb', xb', rfl, q1, q2, q3, q4, q5, q6, q7, q8, q9⟩
   obtain ⟨A, c, rfl⟩ := own_slice q6
   obtain ⟨k1, k2⟩ := keep2.out w22 q9
   rw [hu2.out] at k1
   rw [hE2.out] at k2
   have u0' := cell_at k1 1
   have u2' := cell_at k1 2
   have u3' := cell_at k1 3
   simp at u0' u2' u3'
   have d0 := cell_at k2 1
   have d2 := cell_at k2 2
   simp at d0 d2
   have s2 := fun X => cell_at (heap_set k2 1 X) 2
   have s0 := fun X => cell_at (heap_set k2 2 X) 1
   have t2 := fun X => free_of (heap_set k2 1 X) 2
   have t0 := fun X => free_of (heap_set k2 2 X) 1
   simp at s2 s0 t2 t0
   have f0' := free_of k2 1
   have f2' := free_of k2 2
   replace q1 := Aside0.mk q1; replace k1 := Aside0.mk k1; replace k2 := Aside0.mk k2; replace q4 := Aside0.mk q4; replace q6 := Aside0.mk q6; replace q7 := Aside0.mk q7
   try go_wp2_with fail
   refine hK.out _ _ (by go_keep) (fun hHeld => ?_)
   clear hK K
   skip
   refine tk 16 ?_
   refine tk 17 ?_
   refine tk 18 ?_
   refine tk 19 ?_
   refine tk 20 ?_
   refine rd1 21 (fun K hK => ?_)
   go_simp
   refine hK.out _ _ (by go_keep) (fun hHeld => ?_)
   clear hK K
   skip
   refine tk 22 ?_
   refine rd1 23 (fun K hK => ?_)
   go_simp
   refine hK.out _ _ (by go_keep) (fun hHeld => ?_)
   clear hK K
   skip
   refine tk 24 ?_
   refine wpAnyH_done (by kernel_rfl) ?_ _
   refine NoPanic.normal ?_
   have hfin := enc_side 1 (by omega) (w1 := w3.drew) hE2.out hz2.out hP.out rfl hg.symm hn2 hn1 ho2.out hB2 hBe hBg2 q1.out q2 q3 q4.out q5 q6.out q7.out q8 q9
   simp only [Nat.one_ne_zero, if_false] at hfin
   obtain ⟨hS3, hF3⟩ := hfin
   have hF4 := Er.trans hF3'.drew hF3
   go_wp2
   go_ret
   exact ⟨rfl, hS3, hF4⟩
 ·go_simp
  refine hK.out _ _ (by go_keep) (fun hHeld => ?_)
  clear hK K
  skip
  refine rd1 7 (fun K hK => ?_)
  go_simp
  refine hK.out _ _ (by go_keep) (fun hHeld => ?_)
  clear hK K
  skip
  refine rd1 15 (fun K hK => ?_)
  go_simp
  refine hc1.out.mono ?_
  rintro e w21 ⟨g', zs', vb', nb', xb', rfl, q1, q2, q3, q4, q5, q6, q7, q8, q9⟩
  obtain ⟨A, c, rfl⟩ := own_slice q6
  obtain ⟨k1, k2⟩ := keep1.out w21 q9
  rw [hu1.out] at k1
  rw [hE1.out] at k2
  have u0' := cell_at k1 0
  have u2' := cell_at k1 2
  have u3' := cell_at k1 3
  simp at u0' u2' u3'
  have d0 := cell_at k2 0
  have d2 := cell_at k2 2
  simp at d0 d2
  have s2 := fun X => cell_at (heap_set k2 0 X) 2
  have s0 := fun X => cell_at (heap_set k2 2 X) 0
  have t2 := fun X => free_of (heap_set k2 0 X) 2
  have t0 := fun X => free_of (heap_set k2 2 X) 0
  simp at s2 s0 t2 t0
  have f0' := free_of k2 0
  have f2' := free_of k2 2
  replace q1 := Aside0.mk q1; replace k1 := Aside0.mk k1; replace k2 := Aside0.mk k2; replace q4 := Aside0.mk q4; replace q6 := Aside0.mk q6; replace q7 := Aside0.mk q7
  try go_wp2_with fail
  refine hK.out _ _ (by go_keep) (fun hHeld => ?_)
  clear hK K
  skip
  refine tk 16 ?_
  refine tk 17 ?_
  refine tk 18 ?_
  refine tk 19 ?_
  refine tk 20 ?_
  refine rd1 21 (fun K hK => ?_)
  go_simp
  refine hK.out _ _ (by go_keep) (fun hHeld => ?_)
  clear hK K
  skip
  refine tk 22 ?_
  refine rd1 23 (fun K hK => ?_)
  go_simp
  refine hK.out _ _ (by go_keep) (fun hHeld => ?_)
  clear hK K
  skip
  refine tk 24 ?_
  refine wpAnyH_done (by kernel_rfl) ?_ _
  refine NoPanic.normal ?_
  have hfin := enc_side 0 (by omega) (w1 := w1.drew) hE1.out hz1.out hR1.out rfl hg hn1 hn2 ho1.out hB1 hBe hBg1 q1.out q2 q3 q4.out q5 q6.out q7.out q8 q9
  have hu3 := heap_far (heap_far k1.out (p := ⟨eb, 0, none⟩) (fun h => hne h.symm) (.slice (some ⟨g', 0, none⟩) po.length zs'.length)) (p := ⟨eb, 2, none⟩) (fun h => hne h.symm) (.slice A nb' c)
  simp only [if_true] at hfin
  generalize ((w21.setCell ⟨eb, 0, none⟩ (.slice (some ⟨g', 0, none⟩) po.length zs'.length)).setCell ⟨eb, 2, none⟩ (.slice A nb' c)) = w3 at *
  obtain ⟨hS3, hF3⟩ := hfin
  have hF3' : Fr (Er B eb w) w w3 := Er.trans hF1.drew hF3
  clear ca1 cb1 hc1 keep1 u01 u21 u31 k1 k2 q1 q2 q3 q4 q5 q6 q7 q8 q9 hF3 u0' u2' u3' d0 d2 s2 s0 t2 t0 f0' f2'
  go_wp2_with fail
  clear hE1 hz1 hR1 hg hn1 hn2 ho1 hB1 hBg1 hl1 hm1 ht1 hu1
  obtain ⟨pv2, rv2, vb2, gg, g2, nb2, xb2, hE2, hP, hR, hg, hn1, hn2, ho2, hB2, _⟩ := hS3
  obtain ⟨zs2, rfl, hz2, hl2, hm2, ht2, hBg2⟩ := hR
  replace hz2 := Aside0.mk hz2; replace ht2 := Aside0.mk ht2; replace hP := Aside0.mk hP; replace ho2 := Aside0.mk ho2; replace hE2 := Aside0.mk hE2
  have hu2 := Aside0.mk hu3; clear hu3
  have ca2 := cell_at hE2.out 1; have cb2 := cell_at hE2.out 2
  simp at ca2 cb2
  have hc2 : Aside0 (Calls Tryz.prog 164 #[.slice (some ⟨g2, 0, none⟩) r.length zs2.length, vb2, .string key, .string val, .bool true] w3.drew (RP B w3.drew g2 vb2 ro)) :=
   .mk (rpe gr true B g2 r.length zs2 vb2 nb2 xb2 key val k2 w3.drew hz2.out hl2 hm2 hr ho2.out hB2 hn2 hk hv (by rw [ht2.out]; exact h2) ro (by rw [ht2.out]; exact hro.out))
  have keep2 : Aside0 (∀ w2, Fr (fun k => k = g2 ∨ vb2.ownBlock = some k) w3.drew w2 → w2.heap[ub]? = w3.heap[ub]? ∧ w2.heap[eb]? = w3.heap[eb]?) := .mk (fun w2 hf => by
   refine ⟨hf.block _ (lt_of hu2.out) ?_, hf.block _ (lt_of hE2.out) ?_⟩
   ·rintro (h | h)
    ·subst h; obtain ⟨fr, h, _⟩ := hz2.out; rw [hu2.out] at h; simp at h
    ·obtain ⟨_, cs, fr, h⟩ := own_typ ho2.out _ h; rw [hu2.out] at h; simp at h
   ·rintro (h | h)
    ·subst h; obtain ⟨fr, h, _⟩ := hz2.out; rw [hE2.out] at h; simp at h
    ·obtain ⟨_, cs, fr, h⟩ := own_typ ho2.out _ h; rw [hE2.out] at h; simp at h)
  have u02 := cell_at hu2.out 1; have u22 := cell_at hu2.out 2; have u32 := cell_at hu2.out 3
  simp at u02 u22 u32
  refine wp_region_noPanic ?_
  refine wp_region_held_drew (S := fun w' => w'.cell? ⟨ub, 1, none⟩ = some (.pointer (some ⟨eb, 1, none⟩)) ∧ w'.cell? ⟨ub, 2, none⟩ = some (.pointer (some ⟨eb, 2, none⟩)) ∧ w'.cell? ⟨ub, 3, none⟩ = some (.string key)) (by kernel_rfl) (by go_keep) (fun hHeld => ?_)
  refine tk 0 ?_
  refine tk 1 ?_
  refine tk 2 ?_
  refine tk 3 ?_
  refine tk 4 ?_
  refine tk 5 ?_
  refine tk 6 ?_
  refine tk 8 ?_
  refine tk 9 ?_
  refine tk 10 ?_
  refine tk 12 ?_
  refine tk 13 ?_
  refine tk 14 ?_
  refine wpAnyH_ready (rs := [7, 11]) (by kernel_rfl) (by simp) ?_
  refine AllReadyH.cons rfl (fun K hK => ?_) (AllReadyH.cons rfl (fun K hK => ?_) AllReadyH.nil)
  ·go_simp
   refine hK.out _ _ (by go_keep) (fun hHeld => ?_)
   clear hK K
   skip
   refine rd1 11 (fun K hK => ?_)
   go_simp
   refine hK.out _ _ (by go_keep) (fun hHeld => ?_)
   clear hK K
   skip
   refine rd1 15 (fun K hK => ?_)
   go_simp
   refine hc2.out.mono ?_
   rintro e w22 ⟨g', zs', vb', nb', xb', rfl, q1, q2, q3, q4, q5, q6, q7, q8, q9⟩
   obtain ⟨A, c, rfl⟩ := own_slice q6
   obtain ⟨k1, k2⟩ := keep2.out w22 q9
   rw [hu2.out] at k1
   rw [hE2.out] at k2
   have u0' := cell_at k1 1
   have u2' := cell_at k1 2
   have u3' := cell_at k1 3
   simp at u0' u2' u3'
   have d0 := cell_at k2 1
   have d2 := cell_at k2 2
   simp at d0 d2
   have s2 := fun X => cell_at (heap_set k2 1 X) 2
   have s0 := fun X => cell_at (heap_set k2 2 X) 1
   have t2 := fun X => free_of (heap_set k2 1 X) 2
   have t0 := fun X => free_of (heap_set k2 2 X) 1
   simp at s2 s0 t2 t0
   have f0' := free_of k2 1
   have f2' := free_of k2 2
   replace q1 := Aside0.mk q1; replace k1 := Aside0.mk k1; replace k2 := Aside0.mk k2; replace q4 := Aside0.mk q4; replace q6 := Aside0.mk q6; replace q7 := Aside0.mk q7
   try go_wp2_with fail
   refine hK.out _ _ (by go_keep) (fun hHeld => ?_)
   clear hK K
   skip
   refine tk 16 ?_
   refine tk 17 ?_
   refine tk 18 ?_
   refine tk 19 ?_
   refine tk 20 ?_
   refine rd1 21 (fun K hK => ?_)
   go_simp
   refine hK.out _ _ (by go_keep) (fun hHeld => ?_)
   clear hK K
   skip
   refine tk 22 ?_
   refine rd1 23 (fun K hK => ?_)
   go_simp
   refine hK.out _ _ (by go_keep) (fun hHeld => ?_)
   clear hK K
   skip
   refine tk 24 ?_
   refine wpAnyH_done (by kernel_rfl) ?_ _
   refine NoPanic.normal ?_
   have hfin := enc_side 1 (by omega) (w1 := w3.drew) hE2.out hz2.out hP.out rfl hg.symm hn2 hn1 ho2.out hB2 hBe hBg2 q1.out q2 q3 q4.out q5 q6.out q7.out q8 q9
   simp only [Nat.one_ne_zero, if_false] at hfin
   obtain ⟨hS3, hF3⟩ := hfin
   have hF4 := Er.trans hF3'.drew hF3
   go_wp2
   go_ret
   exact ⟨rfl, hS3, hF4⟩
  ·go_simp
   refine hK.out _ _ (by go_keep) (fun hHeld => ?_)
   clear hK K
   skip
   refine rd1 7 (fun K hK => ?_)
   go_simp
   refine hK.out _ _ (by go_keep) (fun hHeld => ?_)
   clear hK K
   skip
   refine rd1 15 (fun K hK => ?_)
   go_simp
   refine hc2.out.mono ?_
   rintro e w22 ⟨g', zs', vb', nb', xb', rfl, q1, q2, q3, q4, q5, q6, q7, q8, q9⟩
   obtain ⟨A, c, rfl⟩ := own_slice q6
   obtain ⟨k1, k2⟩ := keep2.out w22 q9
   rw [hu2.out] at k1
   rw [hE2.out] at k2
   have u0' := cell_at k1 1
   have u2' := cell_at k1 2
   have u3' := cell_at k1 3
   simp at u0' u2' u3'
   have d0 := cell_at k2 1
   have d2 := cell_at k2 2
   simp at d0 d2
   have s2 := fun X => cell_at (heap_set k2 1 X) 2
   have s0 := fun X => cell_at (heap_set k2 2 X) 1
   have t2 := fun X => free_of (heap_set k2 1 X) 2
   have t0 := fun X => free_of (heap_set k2 2 X) 1
   simp at s2 s0 t2 t0
   have f0' := free_of k2 1
   have f2' := free_of k2 2
   replace q1 := Aside0.mk q1; replace k1 := Aside0.mk k1; replace k2 := Aside0.mk k2; replace q4 := Aside0.mk q4; replace q6 := Aside0.mk q6; replace q7 := Aside0.mk q7
   try go_wp2_with fail
   refine hK.out _ _ (by go_keep) (fun hHeld => ?_)
   clear hK K
   skip
   refine tk 16 ?_
   refine tk 17 ?_
   refine tk 18 ?_
   refine tk 19 ?_
   refine tk 20 ?_
   refine rd1 21 (fun K hK => ?_)
   go_simp
   refine hK.out _ _ (by go_keep) (fun hHeld => ?_)
   clear hK K
   skip
   refine tk 22 ?_
   refine rd1 23 (fun K hK => ?_)
   go_simp
   refine hK.out _ _ (by go_keep) (fun hHeld => ?_)
   clear hK K
   skip
   refine tk 24 ?_
   refine wpAnyH_done (by kernel_rfl) ?_ _
   refine NoPanic.normal ?_
   have hfin := enc_side 1 (by omega) (w1 := w3.drew) hE2.out hz2.out hP.out rfl hg.symm hn2 hn1 ho2.out hB2 hBe hBg2 q1.out q2 q3 q4.out q5 q6.out q7.out q8 q9
   simp only [Nat.one_ne_zero, if_false] at hfin
   obtain ⟨hS3, hF3⟩ := hfin
   have hF4 := Er.trans hF3'.drew hF3
   go_wp2
   go_ret
   exact ⟨rfl, hS3, hF4⟩
end H
end Go.Proofs.YtclmjmfcggkpaaaGreatDoor
namespace Go.Proofs.YtclmjmfcggkpaaaGreatDoor
open Go.RowKit Go.Proofs.YtclmjmfcggkpaaaGreatDoorW.PrintWords Go.Proofs.YtclmjmfcggkpaaaGreatDoorW.PrintLast Go.Proofs.YtclmjmfcggkpaaaGreatDoorW.PrintMore
namespace H
theorem below_two {w w1 w2 : World} (h : Below w.heap.size w w1) (k : Below w1.drew.heap.size w1.drew w2) : Below w.heap.size w w2 := below_then (below_drew h) (below_drew h).size k
theorem EncS.below {B eb : Nat} {q h : Value} {p r : List Int} {w w' : World} (he : EncS B eb q h p r w) (hb : Below w.heap.size w w') : EncS B eb q h p r w' := by
 obtain ⟨pv, rv, vb, g, g2, nb, xb, hE, hP, hR, hg, hn1, hn2, ho, hB, hBe⟩ := he
 have hf : Fr (fun _ => False) w w' := Fr.of_below hb
 exact ⟨pv, rv, vb, g, g2, nb, xb, hf.heap hE (fun h => h), hP.fr hf (fun h => h), hR.fr hf (fun h => h), hg, hn1, hn2, pw_own_below ho hb, Nat.le_trans hB hb.size, hBe⟩
theorem EncS.lt {B eb : Nat} {q h : Value} {p r : List Int} {w : World} (he : EncS B eb q h p r w) : eb < w.heap.size ∧ B ≤ w.heap.size := by
 obtain ⟨pv, rv, vb, g, g2, nb, xb, hE, hP, hR, hg, hn1, hn2, ho, hB, hBe⟩ := he
 exact ⟨lt_of hE, hB⟩
/-- The value for a label. -/
def UV (eb : Nat) (key : ByteArray) : Value := .agg #[.pointer (some ⟨eb, 0, none⟩), .pointer (some ⟨eb, 1, none⟩), .pointer (some ⟨eb, 2, none⟩), .string key]
def ModP (B eb : Nat) (q h : Value) (po ro : List Int) (w : World) (e : Ending) (w' : World) : Prop := e = .returned .nilIface ∧ EncS B eb q h po ro w' ∧ Fr (Er B eb w) w w'
/-- A step on a label's value: the key's places; what comes of both paths. -/
structure Lab (B eb : Nat) (q h : Value) (p r : List Int) (key val : ByteArray) (po ro : List Int) (w : World) : Prop where
 enc : EncS B eb q h p r w
 hk : key.size ≤ 1000
 hv : val.size ≤ 1000
 hp : p.length ≤ 1099511627776
 hr : r.length ≤ 1099511627776
 out : ∃ (gr : Bool) (k1 k2 : Nat), Idx p key gr k1 ∧ Idx r key gr k2 ∧ po = rep p key gr k1 (vesc gr false val) ∧ ro = rep r key gr k2 (vesc gr true val)
theorem Lab.below {B eb : Nat} {q h : Value} {p r : List Int} {key val : ByteArray} {po ro : List Int} {w w' : World} (H : Lab B eb q h p r key val po ro w) (hb : Below w.heap.size w w') : Lab B eb q h p r key val po ro w' :=
 ⟨H.enc.below hb, H.hk, H.hv, H.hp, H.hr, H.out⟩
theorem ModP.from {B eb : Nat} {q h : Value} {po ro : List Int} {w w1 : World} (hb : Below w.heap.size w w1) {e : Ending} {w' : World} (hm : ModP B eb q h po ro w1 e w') : ModP B eb q h po ro w e w' :=
 ⟨hm.1, hm.2.1, Er.trans (Fr.of_below hb) hm.2.2⟩
theorem modL {B eb : Nat} {q h : Value} {p r : List Int} {key val : ByteArray} {po ro : List Int} {w : World} (H : Lab B eb q h p r key val po ro w) :
 Calls Tryz.prog 139 #[UV eb key, .string val] w (ModP B eb q h po ro w) := by
 obtain ⟨gr, k1, k2, h1, h2, h3, h4⟩ := H.out
 exact modify gr B eb q h p r key val k1 k2 w H.enc H.hk H.hv H.hp H.hr h1 h2 po ro h3 h4
set_option maxHeartbeats 400000 in
set_option maxRecDepth 100000 in
theorem string_call {B eb : Nat} {q h : Value} {p r : List Int} {key val : ByteArray} {po ro : List Int} {w : World} (H : Lab B eb q h p r key val po ro w) :
 Calls Tryz.prog 105 #[UV eb key, .string val] w (ModP B eb q h po ro w) := by
 replace H := Aside0.mk H
 unfold UV
 go_enter Tryz.func105, Tryz.ntmps105
 go_wp2_with fail
 have hb := below_alloc (Below.refl w.heap.size w) (.cells #[.pointer (some ⟨eb, 0, none⟩), .pointer (some ⟨eb, 1, none⟩), .pointer (some ⟨eb, 2, none⟩), .string key] 116)
 have hc := modL (H.out.below hb)
 unfold UV at hc
 refine hc.mono ?_
 rintro e w' ⟨rfl, h1, h2⟩
 go_wp2
 go_ret
 exact ModP.from hb ⟨rfl, h1, h2⟩
set_option maxHeartbeats 400000 in
set_option maxRecDepth 100000 in
theorem newUV_call (eb : Nat) (key : ByteArray) (w : World) :
 Calls Tryz.prog 106 #[.pointer (some ⟨eb, 0, none⟩), .pointer (some ⟨eb, 1, none⟩), .pointer (some ⟨eb, 2, none⟩), .string key] w fun e w' => e = .returned (UV eb key) ∧ Below w.heap.size w w' := by
 go_enter Tryz.func106, Tryz.ntmps106
 go_wp2
 (try simp only [Exit.inBlock, Exit.then])
 refine bodyPost_ret (v := UV eb key) ?_ rfl ⟨rfl, ?_⟩
 ·simp only [results, UV]; go_simp
 ·exact below_alloc (Below.refl _ _) _
set_option maxHeartbeats 400000 in
set_option maxRecDepth 100000 in
theorem setURI_call (eb : Nat) (key : ByteArray) (w : World) :
 Calls Tryz.prog 71 #[.pointer (some ⟨eb, 0, none⟩), .string key] w fun e w' => e = .returned (UV eb key) ∧ Below w.heap.size w w' := by
 go_enter Tryz.func71, Tryz.ntmps71
 go_wp2_with fail
 have hu := heap_new w (.cells #[.pointer none, .pointer none, .pointer none, .string ⟨#[]⟩] 116)
 have hb1 := below_alloc (Below.refl w.heap.size w) (.cells #[.pointer none, .pointer none, .pointer none, .string ⟨#[]⟩] 116)
 generalize w.alloc (.cells #[.pointer none, .pointer none, .pointer none, .string ⟨#[]⟩] 116) = w1 at *
 have hBle := Nat.le_refl w.heap.size
 generalize hub : w.heap.size = ub at *
 replace hu := Aside0.mk hu
 go_region_held3 (fun w' => True) (trivial) ((go_at_call 106; refine (newUV_call eb key _).mono ?_; rintro e w2 ⟨rfl, hb⟩; have h := Fr.heap (Fr.of_below (S := fun _ => False) hb) hu.out (fun h => h); have e0 := cell_at h 0; have e1 := cell_at h 1; have e2 := cell_at h 2; have e3 := cell_at h 3; have d0 := free_of h 0; have d1 := free_of h 1; have d2 := free_of h 2; have d3 := free_of h 3; simp at e0 e1 e2 e3; replace h := Aside0.mk h; unfold UV))
 go_wp2
 (try simp only [Exit.inBlock, Exit.then])
 refine bodyPost_ret (v := UV eb key) ?_ rfl ⟨rfl, ?_⟩
 ·simp only [results, UV]; go_simp
 ·subst hub
  have hF := below_then (below_drew hb1) (below_drew hb1).size hb
  exact (((hF.setCell (Nat.le_refl _) _).setCell (Nat.le_refl _) _).setCell (Nat.le_refl _) _).setCell (Nat.le_refl _) _
/-- A field. -/
def FV (wh : Int) (pre key : ByteArray) (kind : Int) (text : ByteArray) (num : Int) : Value := .agg #[.int .i64 wh, .string pre, .string key, .int .i64 kind, .string text, .int .i64 num]
set_option maxHeartbeats 400000 in
set_option maxRecDepth 100000 in
theorem inURI_string {B eb : Nat} {q h : Value} {p r : List Int} {key val : ByteArray} {po ro : List Int} {w : World} (H : Lab B eb q h p r key val po ro w) (wh : Int) (pre key' : ByteArray) (num : Int) :
 Calls Tryz.prog 70 #[UV eb key, FV wh pre key' 0 val num] w (ModP B eb q h po ro w) := by
 replace H := Aside0.mk H
 unfold UV FV
 go_enter Tryz.func70, Tryz.ntmps70
 go_wp2_with fail
 have hb := below_alloc (below_alloc (Below.refl w.heap.size w) (.cells #[.pointer (some ⟨eb, 0, none⟩), .pointer (some ⟨eb, 1, none⟩), .pointer (some ⟨eb, 2, none⟩), .string key] 116)) (.cells #[.int .i64 wh, .string pre, .string key', .int .i64 0, .string val, .int .i64 num] 48)
 have hc := string_call (H.out.below hb)
 unfold UV at hc
 refine hc.mono ?_
 rintro e w' ⟨rfl, h1, h2⟩
 go_wp2
 go_ret
 exact ModP.from hb ⟨rfl, h1, h2⟩
theorem Lab.heap {B eb : Nat} {w w' : World} (h : Fr (Er B eb w) w w') {k : Nat} {o : Obj} (ho : w.heap[k]? = some o) (hn : k ≠ eb) (hb : ∀ cs fr, o ≠ .cells cs 5 fr) : w'.heap[k]? = some o := Er.fr h (lt_of ho) hn ho hb
set_option maxHeartbeats 1000000 in
set_option maxRecDepth 100000 in
theorem put_string {B eb : Nat} {q h : Value} {p r : List Int} {key val : ByteArray} {po ro : List Int} {w : World} (H : Lab B eb q h p r key val po ro w) (pre : ByteArray) (num : Int) :
 Calls Tryz.prog 46 #[.pointer (some ⟨eb, 0, none⟩), FV 0 pre key 0 val num] w (ModP B eb q h po ro w) := by
 have hlt := H.enc.lt.1
 replace H := Aside0.mk H
 unfold FV
 go_enter Tryz.func46, Tryz.ntmps46
 go_wp2_with fail
 have hu := heap_new w (.cells #[.int .i64 0, .string pre, .string key, .int .i64 0, .string val, .int .i64 num] 48)
 have hb1 := below_alloc (Below.refl w.heap.size w) (.cells #[.int .i64 0, .string pre, .string key, .int .i64 0, .string val, .int .i64 num] 48)
 generalize w.alloc (.cells #[.int .i64 0, .string pre, .string key, .int .i64 0, .string val, .int .i64 num] 48) = w1 at *
 have hne : w.heap.size ≠ eb := by omega
 have hb1' := Aside0.mk hb1; clear hb1
 generalize hub : w.heap.size = ub at *
 have c0 := cell_at hu 0; have c1 := cell_at hu 1; have c2 := cell_at hu 2; have c3 := cell_at hu 3; have c4 := cell_at hu 4; have c5 := cell_at hu 5
 simp at c0 c1 c2 c3 c4 c5
 replace hu := Aside0.mk hu
 have hin := fun w => @inURI_string B eb q h p r key val po ro w
 unfold FV at hin
 replace hin := Aside0.mk hin
 go_region_held3 (fun w' => w'.cell? ⟨ub, 0, none⟩ = some (.int .i64 0) ∧ w'.cell? ⟨ub, 1, none⟩ = some (.string pre) ∧ w'.cell? ⟨ub, 2, none⟩ = some (.string key) ∧ w'.cell? ⟨ub, 3, none⟩ = some (.int .i64 0) ∧ w'.cell? ⟨ub, 4, none⟩ = some (.string val) ∧ w'.cell? ⟨ub, 5, none⟩ = some (.int .i64 num)) (go_keep) (first | ((go_at_call 71; refine (setURI_call eb key _).mono ?_; rintro e w2 ⟨rfl, hb⟩; have h := Fr.heap (Fr.of_below (S := fun _ => False) hb) hu.out (fun h => h); have e0 := cell_at h 0; have e1 := cell_at h 1; have e2 := cell_at h 2; have e3 := cell_at h 3; have e4 := cell_at h 4; have e5 := cell_at h 5; simp at e0 e1 e2 e3 e4 e5; replace h := Aside0.mk h; replace hb := Aside0.mk hb)) | ((go_at_call 70; refine (hin.out w2 (H.out.below (below_two (by rw [hub]; exact hb1'.out) hb.out)) 0 pre key num).mono ?_; rintro e w3 ⟨rfl, h1, h2⟩; have h3 := Lab.heap h2 h.out hne (by simp); have g0 := cell_at h3 0; have g1 := cell_at h3 1; have g2 := cell_at h3 2; have g3 := cell_at h3 3; have g4 := cell_at h3 4; have g5 := cell_at h3 5; simp at g0 g1 g2 g3 g4 g5)))
 go_wp2
 go_ret
 subst hub
 exact ModP.from (below_then (below_drew hb1'.out) (below_drew hb1'.out).size hb.out) ⟨rfl, h1, h2⟩
end H
end Go.Proofs.YtclmjmfcggkpaaaGreatDoor
