import Derived.Test.YtclmjmfcggkpaaaGreatDoorU13
import Derived.Test.YtclmjmfcggkpaaaGreatDoorU12
set_option linter.unusedSimpArgs false
set_option linter.unusedVariables false
namespace Go.Proofs.YtclmjmfcggkpaaaGreatDoor
open Go.RowKit Go.Proofs.YtclmjmfcggkpaaaGreatDoorW.PrintWords Go.Proofs.YtclmjmfcggkpaaaGreatDoorW.PrintLast Go.Proofs.YtclmjmfcggkpaaaGreatDoorW.PrintMore
namespace H
set_option maxHeartbeats 1000000 in
set_option maxRecDepth 100000 in
theorem rpe_ff (B g n : Nat) (zs : List Int) (vb : Value) (nb : Nat) (xb : List Value) (key val : ByteArray) (r : Nat) (w : World)
 (hp : BAt w g zs) (hn : n ≤ zs.length) (hzl : zs.length ≤ 9223372036854775807) (hn2 : n ≤ 1099511627776) (ho : w.ownsRow B 5 1 vb nb xb) (hB : B ≤ w.heap.size) (hne : vb.ownBlock ≠ some g)
 (hk : key.size ≤ 1000) (hv : val.size ≤ 1000)
 (hr : ∃ k, PX.smhttp_index.f k (strOfNums (zs.take n)) (strOfNums (123 :: (bytesOf key ++ [125]))) = some (r : Int)) (hrn : r + (key.size + 2) ≤ n)
 (out : List Int) (hout : out = (zs.take n).take r ++ bytesOf val ++ (zs.take n).drop (r + (key.size + 2))) :
 Calls Tryz.prog 164 #[.slice (some ⟨g, 0, none⟩) n zs.length, vb, .string key, .string val, .bool false] w (RP B w g vb out) := by
 have hgw := hp.lt
 replace hout := Aside0.mk hout
 have hp' := Aside0.mk hp; clear hp
 have hne' := Aside0.mk hne; clear hne
 go_enter Tryz.func164, Tryz.ntmps164
 go_wp2_with fail
 refine (bufCap_call B vb nb xb (key.size + 2) w ho hB (by omega) (by omega)).mono ?_
 rintro e w1 ⟨v1, rfl, ho1, hb1, hat1⟩
 have HF : FB B w vb w1 v1 [] := ⟨ho1, hat1, Fr.of_below hb1⟩
 replace HF := Aside0.mk HF; clear ho1 hb1 hat1 ho
 go_wp2_with (first | ((with_reducible refine gate_builtin (b := .append) (xs := #[.tmp 25, .tmp 26]) rfl ?_); at_builtin; refine print_append_num (w0 := w1) B rfl (.tmp 25) (.tmp 26) 104 5 .u8 1 rfl Tryz.underlying104 inf5 (by omega) v1 [] 123 rfl rfl HF.out.own (Below.refl _ _) (HF.out.base hB) (by simp [bytesOf_length]; try omega) ?_; intro v2 w2 ho2 hb2 hg2 hat2; replace HF := Aside0.mk (HF.out.next ho2 hg2 hat2); clear ho2 hb2 hg2 hat2) | ((with_reducible refine gate_builtin (b := .append) (xs := #[.tmp 28, .tmp 29]) rfl ?_); at_builtin; refine append_strF (w0 := w2) B rfl (.tmp 28) (.tmp 29) 104 9 5 rfl Tryz.underlying104 Tryz.underlying9 inf5 v2 ([] ++ [123]) key rfl rfl HF.out.own (Below.refl _ _) (HF.out.base hB) (by simp [bytesOf_length]; try omega) ?_; intro v3 w3 ho3 hg3 hat3; replace HF := Aside0.mk (HF.out.next ho3 hg3 hat3); clear ho3 hg3 hat3) | ((with_reducible refine gate_builtin (b := .append) (xs := #[.tmp 31, .tmp 32]) rfl ?_); at_builtin; refine print_append_num (w0 := w3) B rfl (.tmp 31) (.tmp 32) 104 5 .u8 1 rfl Tryz.underlying104 inf5 (by omega) v3 ([] ++ [123] ++ bytesOf key) 125 rfl rfl HF.out.own (Below.refl _ _) (HF.out.base hB) (by simp [bytesOf_length]; try omega) ?_; intro v4 w4 ho4 hb4 hg4 hat4; replace HF := Aside0.mk (HF.out.next ho4 hg4 hat4); have ho4' := ho4; generalize hL4 : ([] ++ [123] ++ bytesOf key ++ [125]).length = L4 at ho4'; have hL4a : L4 = key.size + 2 := (by rw [← hL4]; simp [bytesOf_length]; try omega); clear hL4; have hs1 := own_string (P := Tryz.prog) Tryz.underlying104 Tryz.underlying5 Tryz.underlying9 ho4'; have hp4 := hp'.out.fr HF.out.fr hne'.out; have hs2 := hp4.str (n := n) (c := zs.length) hn Tryz.underlying104 Tryz.underlying5 Tryz.underlying9; obtain ⟨A4, c4, rfl⟩ := own_slice ho4'; replace hL4a := Aside0.mk hL4a; clear ho4 ho4' hb4 hg4 hat4 hp4)
  )
 obtain ⟨kk, hr⟩ := hr
 refine (PX.smhttp_index.calls kk _ _ (r : Int) _ hr).mono ?_
 clear hr
 rintro e w5 ⟨rfl, hd⟩
 replace HF := Aside0.mk (HF.out.below hd.below); clear hd hs1 hs2
 have hL4b : L4 ≤ key.size + 2 := by rw [hL4a.out]; omega
 have hL4c : key.size + 2 ≤ L4 := by rw [hL4a.out]; omega
 clear hL4a
 go_wp2_with fail
 refine (bufCap_call B (.slice A4 L4 c4) _ _ val.size w5 HF.out.own (HF.out.base hB) (by omega) (by omega)).mono ?_
 rintro e w6 ⟨v6, rfl, ho6, hb6, hat6⟩
 replace HF := Aside0.mk (HF.out.next (ys := []) ho6 (grown_of_below hb6 _) hat6); clear ho6 hb6 hat6
 go_wp2_with (first | ((with_reducible refine gate_builtin (b := .copy) (xs := #[.tmp 118, .tmp 119]) rfl ?_); have hcm : zs.length ≤ m := (by have := hm.out; omega); refine copyB rfl (.tmp 118) (.tmp 119) 104 104 rfl 5 Tryz.underlying104 (by kernel_rfl) (some ⟨w7.heap.size, 0, none⟩) (some ⟨g, 0, none⟩) m m zs.length zs.length rfl rfl w7.heap.size 0 (List.replicate m 0) (BAt.make w7 m) zs ?hn ?hpos ?hfit ?_; (case hn => show _ = min zs.length m; omega); (case hpos => intro hp; exact ⟨rfl, _, rfl, fun j hj => by rw [add_plain]; exact ((hp'.out.fr HF.out.fr hne'.out).below (below_alloc (Below.refl _ _) _)).cell j hj⟩); (case hfit => intro hp; simp; omega); intro w8 hb8 hf8 hz8) | ((with_reducible refine gate_builtin (b := .copy) (xs := #[.tmp 93, .tmp 94]) rfl ?_); have hq : L4 = L7 := (by have h0 : ((L4 : Int) == (L7 : Int)) = true := (by assumption); have h1 := beq_iff_eq.1 h0; omega); have hsr := HF.out.src; have hbl := bytesOf_length val; refine copyB rfl (.tmp 93) (.tmp 94) 104 104 rfl 5 Tryz.underlying104 (by kernel_rfl) (some ⟨g, r, none⟩) A7 (n - r) (zs.length - r) L7 c7 ?hd ?hs g r zs (hp'.out.fr HF.out.fr hne'.out) (bytesOf val) ?hn ?hpos ?hfit ?_; (case hd => first | rfl | (go_simp; done) | (go_simp; rfl)); (case hs => rfl); (case hn => show _ = min L7 (n - r); omega); (case hpos => intro hp; obtain ⟨ad, ha, hc⟩ := hsr.2 (by omega); exact ⟨rfl, ad, ha, fun j hj => hc j (by omega)⟩); (case hfit => intro hp; omega); intro w8 hb8 hf8 hz8; replace hq := Aside0.mk hq; clear hsr) | ((with_reducible refine gate_builtin (b := .append) (xs := #[.tmp 80, .tmp 81]) rfl ?_); at_builtin; refine append_strF (w0 := w6) B rfl (.tmp 80) (.tmp 81) 104 9 5 rfl Tryz.underlying104 Tryz.underlying9 inf5 v6 [] val rfl rfl HF.out.own (Below.refl _ _) (HF.out.base hB) (by simp [bytesOf_length]; try omega) ?_; intro v7 w7 ho7 hg7 hat7; replace HF := Aside0.mk (HF.out.next ho7 hg7 hat7); have ho7' := ho7; generalize hL7 : ([] ++ bytesOf val).length = L7 at ho7'; have hL7a : L7 = val.size := (by rw [← hL7]; simp [bytesOf_length]); clear hL7; have hL7b : L7 ≤ val.size := (by omega); have hL7c : val.size ≤ L7 := (by omega); clear hL7a; obtain ⟨A7, c7, rfl⟩ := own_slice ho7'; have e1 : (r : Int) + (L4 : Int) - (r : Int) = (L4 : Int) := (by omega); obtain ⟨m, hm⟩ : ∃ m : Nat, (n : Int) + ((L7 : Int) - (L4 : Int)) = (m : Int) := ⟨n + L7 - L4, by omega⟩; have hmk := print_make (P := Tryz.prog) 104 5 .u8 1 Tryz.underlying104 inf5 (by omega) m (by omega); simp only [← hm] at hmk; replace hm := Aside0.mk hm; clear ho7 ho7' hg7 hat7))
 ·go_ret3
  have hvn := HF.out.ne hne'.out hgw
  have hlen : out.length = n := by
   have h1 := hq.out
   rw [hout.out]; simp; omega
  have hsp := spl_same zs (bytesOf val) n r (key.size + 2) hrn hn (by have h1 := hq.out; omega)
  refine ⟨g, spl zs r (bytesOf val), _, _, _, ?_, hb8, ?_, ?_, ?_, .inl rfl, hf8.own HF.out.own (fun k hk he => hvn (by rw [hk, he])), HF.out.at_, hvn, ?_⟩
  ·rw [hlen, spl_length _ _ _ (by have h1 := hq.out; omega)]; rfl
  ·rw [hlen, spl_length _ _ _ (by have h1 := hq.out; omega)]; exact hn
  ·rw [spl_length _ _ _ (by have h1 := hq.out; omega)]; exact hzl
  ·rw [hlen, hout.out]; exact hsp
  ·exact (HF.out.fr.mono (fun _ _ h => .inr h)).trans hf8 (fun _ _ h => .inl h)
 ·have hgl : w.heap.size ≤ w7.heap.size := HF.out.fr.size
  have hl7 := own_lt HF.out.own
  have HNE : Aside0 ((Value.slice A7 L7 c7).ownBlock ≠ some w7.heap.size) := ⟨fun e => by have := hl7 _ e; omega⟩
  clear hl7
  have HF8 := (HF.out.below (below_alloc (Below.refl _ _) (.cells (madeCells #[.int .u8 0] m) 5))).far hf8 hgl HNE.out
  replace HF := Aside0.mk HF8; clear HF8 hf8 hz8 hmk
  have htk : (spl (List.replicate m (0 : Int)) 0 zs).take n = zs.take n := by
   have e : spl (List.replicate m (0 : Int)) 0 zs = zs ++ (List.replicate m (0 : Int)).drop zs.length := by simp [spl]
   rw [e, List.take_append_of_le_length hn]
  have hzl1 : (spl (List.replicate m (0 : Int)) 0 zs).length = m := by rw [spl_length _ _ _ (by simp; omega)]; simp
  have HB8 := Aside0.mk hb8; clear hb8
  generalize spl (List.replicate m (0 : Int)) 0 zs = zs1 at *
  have hzl1a : zs1.length ≤ m := by omega
  have hzl1b : m ≤ zs1.length := by omega
  clear hzl1
  obtain ⟨g1, hg1⟩ : ∃ g1, g1 = w7.heap.size := ⟨_, rfl⟩
  rw [← hg1] at HB8 HNE ⊢
  replace hg1 : w.heap.size ≤ g1 := by omega
  clear hgl
  go_wp2_with fail
  have hL : (bytesOf val).length = L7 := by rw [bytesOf_length]; omega
  have hmq := hm.out
  have hmn : m = n + L7 - L4 := by omega
  have q1 : IntKind.i64.wrap ((r : Int) + (L7 : Int)) = (r : Int) + L7 := IntWalk.i64_in _ (by omega)
  have q2 : (0 : Int) ≤ (r : Int) + L7 := by omega
  have q2b : (r : Int) + L7 ≤ (m : Int) := by omega
  have q3 : (0 : Int) ≤ (r : Int) + L4 := by omega
  have q3b : (r : Int) + L4 ≤ (m : Int) := by omega
  have q4 : ((r : Int) + L7).toNat = r + L7 := by omega
  have q5 : ((r : Int) + L4).toNat = r + L4 := by omega
  have hne1 := HNE.out
  have hmn1 : m ≤ m := by omega
  have hlen : out.length = m := by rw [hout.out]; simp; omega
  have hl4 : key.size + 2 = L4 := by omega
  have hspm := spl_move zs1 (bytesOf val) n m r L4 L7 (by omega) (by omega) (by omega) (by omega) hL
  rw [← hmn, htk] at hspm
  have hmv : ((zs1.drop (r + L4)).take (min (m - (r + L4)) (m - (r + L7)))).length = min (m - (r + L4)) (m - (r + L7)) := by simp; try omega
  have hz2 : (spl zs1 (r + L7) ((zs1.drop (r + L4)).take (min (m - (r + L4)) (m - (r + L7))))).length = zs1.length := spl_length _ _ _ (by rw [hmv]; omega)
  have HSPM := Aside0.mk hspm; clear hspm
  have HMV := Aside0.mk hmv; clear hmv
  have HZ2 := Aside0.mk hz2; clear hz2
  have HL4 := Aside0.mk hl4; clear hl4
  have HMN := Aside0.mk hmn; clear hmn
  have HLEN := Aside0.mk hlen; clear hlen hmq hm
  refine wp_region_still_tail 8 (by kernel_rfl) (by kernel_rfl) ?_
  simp only [List.take_succ_cons, List.take_zero, List.drop_succ_cons, List.drop_zero]
  repeat still_step
  refine wpStill_nil ?_
  change wpList _ _ _ _ _ w8.drew
  have hA := Aside0.mk (HB8.out.below (Below.refl _ _).drew)
  replace HF := Aside0.mk (HF.out.below (Below.refl _ _).drew)
  skip
  generalize w8.drew = w10 at *
  clear q1 q2 q2b q3 q3b q4 q5
  refine copyB rfl (.tmp 126) (.tmp 129) 104 104 rfl 5 Tryz.underlying104 (by kernel_rfl) _ _ _ _ _ _ rfl rfl g1 (r + L7) zs1 hA.out ((zs1.drop (r + L4)).take (min (m - (r + L4)) (m - (r + L7)))) ?hn ?hpos ?hfit ?_
  case hn => exact HMV.out
  case hpos => intro hp; rw [HMV.out] at hp; have := HMN.out; exact ⟨if_neg (by omega), ⟨g1, r + L4, none⟩, if_neg (by omega), fun j hj => cut_cell hA.out _ _ _ (by omega) hj⟩
  case hfit => intro hp; rw [HMV.out]; have := HMN.out; omega
  intro w11 hb11 hf11 hz11
  have ho11 := hf11.own HF.out.own (fun k hk he => hne1 (by rw [hk, he]))
  replace HB11 := Aside0.mk hb11; replace HF11 := Aside0.mk hf11; replace HO11 := Aside0.mk ho11; clear hb11 hf11 ho11 hz11
  have e2 : (n : Int) + ((L7 : Int) - (L4 : Int)) = (m : Int) := by have := HMN.out; omega
  go_wp2_with ((with_reducible refine gate_builtin (b := .copy) (xs := #[.tmp 136, .tmp 137]) rfl ?_); have hsr := own_src HO11.out; (have hcl : r + L7 ≤ m := (by have := HMN.out; omega)); refine copyB rfl (.tmp 136) (.tmp 137) 104 104 rfl 5 Tryz.underlying104 (by kernel_rfl) (some ⟨g1, r, none⟩) A7 (m - r) (m - r) L7 c7 ?hd ?hs g1 r _ HB11.out (bytesOf val) ?hn ?hpos ?hfit ?_; (case hd => first | rfl | (go_simp; done) | (go_simp; rfl)); (case hs => rfl); (case hn => show _ = min L7 (m - r); omega); (case hpos => intro hp; obtain ⟨ad, ha, hc⟩ := hsr.2 (by omega); exact ⟨rfl, ad, ha, fun j hj => hc j (by omega)⟩); (case hfit => intro hp; rw [HZ2.out]; omega); intro w13 hb13 hf13 hz13; replace HB13 := Aside0.mk hb13; replace HF13 := Aside0.mk hf13; clear hb13 hf13 hz13 hsr)
  all_goals
   go_ret3
   have hz3 := spl_length (spl zs1 (r + L7) ((zs1.drop (r + L4)).take (min (m - (r + L4)) (m - (r + L7))))) r (bytesOf val) (by rw [HZ2.out]; have := HMN.out; omega)
   rw [HZ2.out] at hz3
   refine ⟨g1, _, _, _, _, ?_, HB13.out, ?_, ?_, ?_, ?_, HF13.out.own HO11.out (fun k hk he => hne1 (by rw [hk, he])), HF.out.at_, hne1, ?_⟩
   ·rw [HLEN.out, hz3]; first | (rw [show zs1.length = m from by omega]; rfl) | (rw [show zs1.length = m from by omega, show m = r + L7 from by assumption]; rfl) 
   ·rw [HLEN.out, hz3]; omega
   ·rw [hz3]; omega
   ·rw [HLEN.out, HSPM.out, ← HL4.out, hout.out]
   ·exact .inr hg1
   ·exact ((HF.out.fr.mono (fun _ _ h => .inr h)).trans HF11.out (fun k hk h => by omega)).trans HF13.out (fun k hk h => by omega)
 ·have hL : (bytesOf val).length = L7 := by rw [bytesOf_length]; omega
  have hmq := hm.out
  have hmn : m = n + L7 - L4 := by omega
  have q1 : IntKind.i64.wrap ((r : Int) + (L7 : Int)) = (r : Int) + L7 := IntWalk.i64_in _ (by omega)
  have q2 : (0 : Int) ≤ (r : Int) + L7 := by omega
  have q2b : (r : Int) + L7 ≤ (zs.length : Int) := by omega
  have q3 : (0 : Int) ≤ (r : Int) + L4 := by omega
  have q3b : (r : Int) + L4 ≤ (zs.length : Int) := by omega
  have q4 : ((r : Int) + L7).toNat = r + L7 := by omega
  have q5 : ((r : Int) + L4).toNat = r + L4 := by omega
  have hne1 := HF.out.ne hne'.out hgw
  have hmn1 : m ≤ zs.length := by omega
  have hlen : out.length = m := by rw [hout.out]; simp; omega
  have hl4 : key.size + 2 = L4 := by omega
  have hspm := spl_move zs (bytesOf val) n zs.length r L4 L7 (by omega) (by omega) (by omega) (by omega) hL
  rw [← hmn] at hspm
  have hmv : ((zs.drop (r + L4)).take (min (zs.length - (r + L4)) (zs.length - (r + L7)))).length = min (zs.length - (r + L4)) (zs.length - (r + L7)) := by simp; try omega
  have hz2 : (spl zs (r + L7) ((zs.drop (r + L4)).take (min (zs.length - (r + L4)) (zs.length - (r + L7))))).length = zs.length := spl_length _ _ _ (by rw [hmv]; omega)
  have HSPM := Aside0.mk hspm; clear hspm
  have HMV := Aside0.mk hmv; clear hmv
  have HZ2 := Aside0.mk hz2; clear hz2
  have HL4 := Aside0.mk hl4; clear hl4
  have HMN := Aside0.mk hmn; clear hmn
  have HLEN := Aside0.mk hlen; clear hlen hmq hm
  refine wp_region_still_tail 8 (by kernel_rfl) (by kernel_rfl) ?_
  simp only [List.take_succ_cons, List.take_zero, List.drop_succ_cons, List.drop_zero]
  repeat still_step
  refine wpStill_nil ?_
  change wpList _ _ _ _ _ w7.drew
  have hA := Aside0.mk ((hp'.out.fr HF.out.fr hne'.out).below (Below.refl _ _).drew)
  replace HF := Aside0.mk (HF.out.below (Below.refl _ _).drew)
  skip
  generalize w7.drew = w10 at *
  clear q1 q2 q2b q3 q3b q4 q5
  refine copyB rfl (.tmp 126) (.tmp 129) 104 104 rfl 5 Tryz.underlying104 (by kernel_rfl) _ _ _ _ _ _ rfl rfl g (r + L7) zs hA.out ((zs.drop (r + L4)).take (min (zs.length - (r + L4)) (zs.length - (r + L7)))) ?hn ?hpos ?hfit ?_
  case hn => exact HMV.out
  case hpos => intro hp; rw [HMV.out] at hp; have := HMN.out; exact ⟨if_neg (by omega), ⟨g, r + L4, none⟩, if_neg (by omega), fun j hj => cut_cell hA.out _ _ _ (by omega) hj⟩
  case hfit => intro hp; rw [HMV.out]; have := HMN.out; omega
  intro w11 hb11 hf11 hz11
  have ho11 := hf11.own HF.out.own (fun k hk he => hne1 (by rw [hk, he]))
  replace HB11 := Aside0.mk hb11; replace HF11 := Aside0.mk hf11; replace HO11 := Aside0.mk ho11; clear hb11 hf11 ho11 hz11
  have e2 : (n : Int) + ((L7 : Int) - (L4 : Int)) = (m : Int) := by have := HMN.out; omega
  go_wp2_with ((with_reducible refine gate_builtin (b := .copy) (xs := #[.tmp 136, .tmp 137]) rfl ?_); have hsr := own_src HO11.out; (have hcl : r + L7 ≤ m := (by have := HMN.out; omega)); refine copyB rfl (.tmp 136) (.tmp 137) 104 104 rfl 5 Tryz.underlying104 (by kernel_rfl) (some ⟨g, r, none⟩) A7 (m - r) (zs.length - r) L7 c7 ?hd ?hs g r _ HB11.out (bytesOf val) ?hn ?hpos ?hfit ?_; (case hd => first | rfl | (go_simp; done) | (go_simp; rfl)); (case hs => rfl); (case hn => show _ = min L7 (m - r); omega); (case hpos => intro hp; obtain ⟨ad, ha, hc⟩ := hsr.2 (by omega); exact ⟨rfl, ad, ha, fun j hj => hc j (by omega)⟩); (case hfit => intro hp; rw [HZ2.out]; omega); intro w13 hb13 hf13 hz13; replace HB13 := Aside0.mk hb13; replace HF13 := Aside0.mk hf13; clear hb13 hf13 hz13 hsr)
  all_goals
   go_ret3
   have hz3 := spl_length (spl zs (r + L7) ((zs.drop (r + L4)).take (min (zs.length - (r + L4)) (zs.length - (r + L7))))) r (bytesOf val) (by rw [HZ2.out]; have := HMN.out; omega)
   rw [HZ2.out] at hz3
   refine ⟨g, _, _, _, _, ?_, HB13.out, ?_, ?_, ?_, ?_, HF13.out.own HO11.out (fun k hk he => hne1 (by rw [hk, he])), HF.out.at_, hne1, ?_⟩
   ·rw [HLEN.out, hz3]; first | rfl | (simp only [*]; rfl)
   ·rw [HLEN.out, hz3]; omega
   ·rw [hz3]; omega
   ·rw [HLEN.out, HSPM.out, ← HL4.out, hout.out]
   ·exact .inl rfl
   ·exact ((HF.out.fr.mono (fun _ _ h => .inr h)).trans HF11.out (fun _ _ h => .inl h)).trans HF13.out (fun _ _ h => .inl h)
 ·have hL : (bytesOf val).length = L7 := by rw [bytesOf_length]; omega
  have hmq := hm.out
  have hmn : m = n + L7 - L4 := by omega
  have q1 : IntKind.i64.wrap ((r : Int) + (L7 : Int)) = (r : Int) + L7 := IntWalk.i64_in _ (by omega)
  have q2 : (0 : Int) ≤ (r : Int) + L7 := by omega
  have q2b : (r : Int) + L7 ≤ (n : Int) := by omega
  have q3 : (0 : Int) ≤ (r : Int) + L4 := by omega
  have q3b : (r : Int) + L4 ≤ (n : Int) := by omega
  have q4 : ((r : Int) + L7).toNat = r + L7 := by omega
  have q5 : ((r : Int) + L4).toNat = r + L4 := by omega
  have hne1 := HF.out.ne hne'.out hgw
  have hmn1 : m ≤ n := by omega
  have hlen : out.length = m := by rw [hout.out]; simp; omega
  have hl4 : key.size + 2 = L4 := by omega
  have hspm := spl_move zs (bytesOf val) n n r L4 L7 (by omega) (by omega) (by omega) (by omega) hL
  rw [← hmn] at hspm
  have hmv : ((zs.drop (r + L4)).take (min (n - (r + L4)) (n - (r + L7)))).length = min (n - (r + L4)) (n - (r + L7)) := by simp; try omega
  have hz2 : (spl zs (r + L7) ((zs.drop (r + L4)).take (min (n - (r + L4)) (n - (r + L7))))).length = zs.length := spl_length _ _ _ (by rw [hmv]; omega)
  have HSPM := Aside0.mk hspm; clear hspm
  have HMV := Aside0.mk hmv; clear hmv
  have HZ2 := Aside0.mk hz2; clear hz2
  have HL4 := Aside0.mk hl4; clear hl4
  have HMN := Aside0.mk hmn; clear hmn
  have HLEN := Aside0.mk hlen; clear hlen hmq hm
  refine wp_region_still_tail 8 (by kernel_rfl) (by kernel_rfl) ?_
  simp only [List.take_succ_cons, List.take_zero, List.drop_succ_cons, List.drop_zero]
  repeat still_step
  refine wpStill_nil ?_
  change wpList _ _ _ _ _ w7.drew
  have hA := Aside0.mk ((hp'.out.fr HF.out.fr hne'.out).below (Below.refl _ _).drew)
  replace HF := Aside0.mk (HF.out.below (Below.refl _ _).drew)
  skip
  generalize w7.drew = w10 at *
  clear q1 q2 q2b q3 q3b q4 q5
  refine copyB rfl (.tmp 126) (.tmp 129) 104 104 rfl 5 Tryz.underlying104 (by kernel_rfl) _ _ _ _ _ _ rfl rfl g (r + L7) zs hA.out ((zs.drop (r + L4)).take (min (n - (r + L4)) (n - (r + L7)))) ?hn ?hpos ?hfit ?_
  case hn => exact HMV.out
  case hpos => intro hp; rw [HMV.out] at hp; have := HMN.out; exact ⟨if_neg (by omega), ⟨g, r + L4, none⟩, if_neg (by omega), fun j hj => cut_cell hA.out _ _ _ (by omega) hj⟩
  case hfit => intro hp; rw [HMV.out]; have := HMN.out; omega
  intro w11 hb11 hf11 hz11
  have ho11 := hf11.own HF.out.own (fun k hk he => hne1 (by rw [hk, he]))
  replace HB11 := Aside0.mk hb11; replace HF11 := Aside0.mk hf11; replace HO11 := Aside0.mk ho11; clear hb11 hf11 ho11 hz11
  have e2 : (n : Int) + ((L7 : Int) - (L4 : Int)) = (m : Int) := by have := HMN.out; omega
  go_wp2_with ((with_reducible refine gate_builtin (b := .copy) (xs := #[.tmp 136, .tmp 137]) rfl ?_); have hsr := own_src HO11.out; (have hcl : r + L7 ≤ m := (by have := HMN.out; omega)); refine copyB rfl (.tmp 136) (.tmp 137) 104 104 rfl 5 Tryz.underlying104 (by kernel_rfl) (some ⟨g, r, none⟩) A7 (m - r) (zs.length - r) L7 c7 ?hd ?hs g r _ HB11.out (bytesOf val) ?hn ?hpos ?hfit ?_; (case hd => first | rfl | (go_simp; done) | (go_simp; rfl)); (case hs => rfl); (case hn => show _ = min L7 (m - r); omega); (case hpos => intro hp; obtain ⟨ad, ha, hc⟩ := hsr.2 (by omega); exact ⟨rfl, ad, ha, fun j hj => hc j (by omega)⟩); (case hfit => intro hp; rw [HZ2.out]; omega); intro w13 hb13 hf13 hz13; replace HB13 := Aside0.mk hb13; replace HF13 := Aside0.mk hf13; clear hb13 hf13 hz13 hsr)
  all_goals
   go_ret3
   have hz3 := spl_length (spl zs (r + L7) ((zs.drop (r + L4)).take (min (n - (r + L4)) (n - (r + L7))))) r (bytesOf val) (by rw [HZ2.out]; have := HMN.out; omega)
   rw [HZ2.out] at hz3
   refine ⟨g, _, _, _, _, ?_, HB13.out, ?_, ?_, ?_, ?_, HF13.out.own HO11.out (fun k hk he => hne1 (by rw [hk, he])), HF.out.at_, hne1, ?_⟩
   ·rw [HLEN.out, hz3]; first | rfl | (simp only [*]; rfl)
   ·rw [HLEN.out, hz3]; omega
   ·rw [hz3]; omega
   ·rw [HLEN.out, HSPM.out, ← HL4.out, hout.out]
   ·exact .inl rfl
   ·exact ((HF.out.fr.mono (fun _ _ h => .inr h)).trans HF11.out (fun _ _ h => .inl h)).trans HF13.out (fun _ _ h => .inl h)
end H
end Go.Proofs.YtclmjmfcggkpaaaGreatDoor
set_option linter.unusedSimpArgs false
set_option linter.unusedVariables false
namespace Go.Proofs.YtclmjmfcggkpaaaGreatDoor
open Go.RowKit Go.Proofs.YtclmjmfcggkpaaaGreatDoorW.PrintWords Go.Proofs.YtclmjmfcggkpaaaGreatDoorW.PrintLast Go.Proofs.YtclmjmfcggkpaaaGreatDoorW.PrintMore
namespace H
set_option maxHeartbeats 1000000 in
set_option maxRecDepth 100000 in
theorem rpe_ft (B g n : Nat) (zs : List Int) (vb : Value) (nb : Nat) (xb : List Value) (key val : ByteArray) (r : Nat) (w : World) (val' : ByteArray) (hval' : val' = strOfNums (escB false (bytesOf val))) (hv' : val'.size ≤ 4000)
 (hp : BAt w g zs) (hn : n ≤ zs.length) (hzl : zs.length ≤ 9223372036854775807) (hn2 : n ≤ 1099511627776) (ho : w.ownsRow B 5 1 vb nb xb) (hB : B ≤ w.heap.size) (hne : vb.ownBlock ≠ some g)
 (hk : key.size ≤ 1000) (hv : val.size ≤ 1000)
 (hr : ∃ k, PX.smhttp_index.f k (strOfNums (zs.take n)) (strOfNums (123 :: (bytesOf key ++ [125]))) = some (r : Int)) (hrn : r + (key.size + 2) ≤ n)
 (out : List Int) (hout : out = (zs.take n).take r ++ bytesOf val' ++ (zs.take n).drop (r + (key.size + 2))) :
 Calls Tryz.prog 164 #[.slice (some ⟨g, 0, none⟩) n zs.length, vb, .string key, .string val, .bool true] w (RP B w g vb out) := by
 have hgw := hp.lt
 replace hval' := Aside0.mk hval'
 replace hout := Aside0.mk hout
 have hp' := Aside0.mk hp; clear hp
 have hne' := Aside0.mk hne; clear hne
 go_enter Tryz.func164, Tryz.ntmps164
 go_wp2_with fail
 refine (bufCap_call B vb nb xb (key.size + 2) w ho hB (by omega) (by omega)).mono ?_
 rintro e w1 ⟨v1, rfl, ho1, hb1, hat1⟩
 have HF : FB B w vb w1 v1 [] := ⟨ho1, hat1, Fr.of_below hb1⟩
 replace HF := Aside0.mk HF; clear ho1 hb1 hat1 ho
 go_wp2_with (first | ((with_reducible refine gate_builtin (b := .append) (xs := #[.tmp 25, .tmp 26]) rfl ?_); at_builtin; refine print_append_num (w0 := w1) B rfl (.tmp 25) (.tmp 26) 104 5 .u8 1 rfl Tryz.underlying104 inf5 (by omega) v1 [] 123 rfl rfl HF.out.own (Below.refl _ _) (HF.out.base hB) (by simp [bytesOf_length]; try omega) ?_; intro v2 w2 ho2 hb2 hg2 hat2; replace HF := Aside0.mk (HF.out.next ho2 hg2 hat2); clear ho2 hb2 hg2 hat2) | ((with_reducible refine gate_builtin (b := .append) (xs := #[.tmp 28, .tmp 29]) rfl ?_); at_builtin; refine append_strF (w0 := w2) B rfl (.tmp 28) (.tmp 29) 104 9 5 rfl Tryz.underlying104 Tryz.underlying9 inf5 v2 ([] ++ [123]) key rfl rfl HF.out.own (Below.refl _ _) (HF.out.base hB) (by simp [bytesOf_length]; try omega) ?_; intro v3 w3 ho3 hg3 hat3; replace HF := Aside0.mk (HF.out.next ho3 hg3 hat3); clear ho3 hg3 hat3) | ((with_reducible refine gate_builtin (b := .append) (xs := #[.tmp 31, .tmp 32]) rfl ?_); at_builtin; refine print_append_num (w0 := w3) B rfl (.tmp 31) (.tmp 32) 104 5 .u8 1 rfl Tryz.underlying104 inf5 (by omega) v3 ([] ++ [123] ++ bytesOf key) 125 rfl rfl HF.out.own (Below.refl _ _) (HF.out.base hB) (by simp [bytesOf_length]; try omega) ?_; intro v4 w4 ho4 hb4 hg4 hat4; replace HF := Aside0.mk (HF.out.next ho4 hg4 hat4); have ho4' := ho4; generalize hL4 : ([] ++ [123] ++ bytesOf key ++ [125]).length = L4 at ho4'; have hL4a : L4 = key.size + 2 := (by rw [← hL4]; simp [bytesOf_length]; try omega); clear hL4; have hs1 := own_string (P := Tryz.prog) Tryz.underlying104 Tryz.underlying5 Tryz.underlying9 ho4'; have hp4 := hp'.out.fr HF.out.fr hne'.out; have hs2 := hp4.str (n := n) (c := zs.length) hn Tryz.underlying104 Tryz.underlying5 Tryz.underlying9; obtain ⟨A4, c4, rfl⟩ := own_slice ho4'; replace hL4a := Aside0.mk hL4a; clear ho4 ho4' hb4 hg4 hat4 hp4)
  )
 obtain ⟨kk, hr⟩ := hr
 refine (PX.smhttp_index.calls kk _ _ (r : Int) _ hr).mono ?_
 clear hr
 rintro e w5 ⟨rfl, hd⟩
 replace HF := Aside0.mk (HF.out.below hd.below); clear hd hs1 hs2
 have hL4b : L4 ≤ key.size + 2 := by rw [hL4a.out]; omega
 have hL4c : key.size + 2 ≤ L4 := by rw [hL4a.out]; omega
 clear hL4a
 go_wp2_with fail
 have hE : Calls Tryz.prog 57 #[.string val, .bool true] w5 fun e w' => e = .returned (.string val') ∧ Below w5.heap.size w5 w' := by
  rw [hval'.out]; exact escPath val true w5 (by omega)
 refine hE.mono ?_
 rintro e w5b ⟨rfl, hbE⟩
 replace HF := Aside0.mk (HF.out.below hbE); clear hbE hE
 go_wp2_with fail
 refine (bufCap_call B (.slice A4 L4 c4) _ _ val'.size w5b HF.out.own (HF.out.base hB) (by omega) (by omega)).mono ?_
 rintro e w6 ⟨v6, rfl, ho6, hb6, hat6⟩
 replace HF := Aside0.mk (HF.out.next (ys := []) ho6 (grown_of_below hb6 _) hat6); clear ho6 hb6 hat6
 go_wp2_with (first | ((with_reducible refine gate_builtin (b := .copy) (xs := #[.tmp 118, .tmp 119]) rfl ?_); have hcm : zs.length ≤ m := (by have := hm.out; omega); refine copyB rfl (.tmp 118) (.tmp 119) 104 104 rfl 5 Tryz.underlying104 (by kernel_rfl) (some ⟨w7.heap.size, 0, none⟩) (some ⟨g, 0, none⟩) m m zs.length zs.length rfl rfl w7.heap.size 0 (List.replicate m 0) (BAt.make w7 m) zs ?hn ?hpos ?hfit ?_; (case hn => show _ = min zs.length m; omega); (case hpos => intro hp; exact ⟨rfl, _, rfl, fun j hj => by rw [add_plain]; exact ((hp'.out.fr HF.out.fr hne'.out).below (below_alloc (Below.refl _ _) _)).cell j hj⟩); (case hfit => intro hp; simp; omega); intro w8 hb8 hf8 hz8) | ((with_reducible refine gate_builtin (b := .copy) (xs := #[.tmp 93, .tmp 94]) rfl ?_); have hq : L4 = L7 := (by have h0 : ((L4 : Int) == (L7 : Int)) = true := (by assumption); have h1 := beq_iff_eq.1 h0; omega); have hsr := HF.out.src; have hbl := bytesOf_length val'; refine copyB rfl (.tmp 93) (.tmp 94) 104 104 rfl 5 Tryz.underlying104 (by kernel_rfl) (some ⟨g, r, none⟩) A7 (n - r) (zs.length - r) L7 c7 ?hd ?hs g r zs (hp'.out.fr HF.out.fr hne'.out) (bytesOf val') ?hn ?hpos ?hfit ?_; (case hd => first | rfl | (go_simp; done) | (go_simp; rfl)); (case hs => rfl); (case hn => show _ = min L7 (n - r); omega); (case hpos => intro hp; obtain ⟨ad, ha, hc⟩ := hsr.2 (by omega); exact ⟨rfl, ad, ha, fun j hj => hc j (by omega)⟩); (case hfit => intro hp; omega); intro w8 hb8 hf8 hz8; replace hq := Aside0.mk hq; clear hsr) | ((with_reducible refine gate_builtin (b := .append) (xs := #[.tmp 80, .tmp 81]) rfl ?_); at_builtin; refine append_strF (w0 := w6) B rfl (.tmp 80) (.tmp 81) 104 9 5 rfl Tryz.underlying104 Tryz.underlying9 inf5 v6 [] val' rfl rfl HF.out.own (Below.refl _ _) (HF.out.base hB) (by simp [bytesOf_length]; try omega) ?_; intro v7 w7 ho7 hg7 hat7; replace HF := Aside0.mk (HF.out.next ho7 hg7 hat7); have ho7' := ho7; generalize hL7 : ([] ++ bytesOf val').length = L7 at ho7'; have hL7a : L7 = val'.size := (by rw [← hL7]; simp [bytesOf_length]); clear hL7; have hL7b : L7 ≤ val'.size := (by omega); have hL7c : val'.size ≤ L7 := (by omega); clear hL7a; obtain ⟨A7, c7, rfl⟩ := own_slice ho7'; have e1 : (r : Int) + (L4 : Int) - (r : Int) = (L4 : Int) := (by omega); obtain ⟨m, hm⟩ : ∃ m : Nat, (n : Int) + ((L7 : Int) - (L4 : Int)) = (m : Int) := ⟨n + L7 - L4, by omega⟩; have hmk := print_make (P := Tryz.prog) 104 5 .u8 1 Tryz.underlying104 inf5 (by omega) m (by omega); simp only [← hm] at hmk; replace hm := Aside0.mk hm; clear ho7 ho7' hg7 hat7))
 ·go_ret3
  have hvn := HF.out.ne hne'.out hgw
  have hlen : out.length = n := by
   have h1 := hq.out
   rw [hout.out]; simp; omega
  have hsp := spl_same zs (bytesOf val') n r (key.size + 2) hrn hn (by have h1 := hq.out; omega)
  refine ⟨g, spl zs r (bytesOf val'), _, _, _, ?_, hb8, ?_, ?_, ?_, .inl rfl, hf8.own HF.out.own (fun k hk he => hvn (by rw [hk, he])), HF.out.at_, hvn, ?_⟩
  ·rw [hlen, spl_length _ _ _ (by have h1 := hq.out; omega)]; rfl
  ·rw [hlen, spl_length _ _ _ (by have h1 := hq.out; omega)]; exact hn
  ·rw [spl_length _ _ _ (by have h1 := hq.out; omega)]; exact hzl
  ·rw [hlen, hout.out]; exact hsp
  ·exact (HF.out.fr.mono (fun _ _ h => .inr h)).trans hf8 (fun _ _ h => .inl h)
 ·have hgl : w.heap.size ≤ w7.heap.size := HF.out.fr.size
  have hl7 := own_lt HF.out.own
  have HNE : Aside0 ((Value.slice A7 L7 c7).ownBlock ≠ some w7.heap.size) := ⟨fun e => by have := hl7 _ e; omega⟩
  clear hl7
  have HF8 := (HF.out.below (below_alloc (Below.refl _ _) (.cells (madeCells #[.int .u8 0] m) 5))).far hf8 hgl HNE.out
  replace HF := Aside0.mk HF8; clear HF8 hf8 hz8 hmk
  have htk : (spl (List.replicate m (0 : Int)) 0 zs).take n = zs.take n := by
   have e : spl (List.replicate m (0 : Int)) 0 zs = zs ++ (List.replicate m (0 : Int)).drop zs.length := by simp [spl]
   rw [e, List.take_append_of_le_length hn]
  have hzl1 : (spl (List.replicate m (0 : Int)) 0 zs).length = m := by rw [spl_length _ _ _ (by simp; omega)]; simp
  have HB8 := Aside0.mk hb8; clear hb8
  generalize spl (List.replicate m (0 : Int)) 0 zs = zs1 at *
  have hzl1a : zs1.length ≤ m := by omega
  have hzl1b : m ≤ zs1.length := by omega
  clear hzl1
  obtain ⟨g1, hg1⟩ : ∃ g1, g1 = w7.heap.size := ⟨_, rfl⟩
  rw [← hg1] at HB8 HNE ⊢
  replace hg1 : w.heap.size ≤ g1 := by omega
  clear hgl
  go_wp2_with fail
  have hL : (bytesOf val').length = L7 := by rw [bytesOf_length]; omega
  have hmq := hm.out
  have hmn : m = n + L7 - L4 := by omega
  have q1 : IntKind.i64.wrap ((r : Int) + (L7 : Int)) = (r : Int) + L7 := IntWalk.i64_in _ (by omega)
  have q2 : (0 : Int) ≤ (r : Int) + L7 := by omega
  have q2b : (r : Int) + L7 ≤ (m : Int) := by omega
  have q3 : (0 : Int) ≤ (r : Int) + L4 := by omega
  have q3b : (r : Int) + L4 ≤ (m : Int) := by omega
  have q4 : ((r : Int) + L7).toNat = r + L7 := by omega
  have q5 : ((r : Int) + L4).toNat = r + L4 := by omega
  have hne1 := HNE.out
  have hmn1 : m ≤ m := by omega
  have hlen : out.length = m := by rw [hout.out]; simp; omega
  have hl4 : key.size + 2 = L4 := by omega
  have hspm := spl_move zs1 (bytesOf val') n m r L4 L7 (by omega) (by omega) (by omega) (by omega) hL
  rw [← hmn, htk] at hspm
  have hmv : ((zs1.drop (r + L4)).take (min (m - (r + L4)) (m - (r + L7)))).length = min (m - (r + L4)) (m - (r + L7)) := by simp; try omega
  have hz2 : (spl zs1 (r + L7) ((zs1.drop (r + L4)).take (min (m - (r + L4)) (m - (r + L7))))).length = zs1.length := spl_length _ _ _ (by rw [hmv]; omega)
  have HSPM := Aside0.mk hspm; clear hspm
  have HMV := Aside0.mk hmv; clear hmv
  have HZ2 := Aside0.mk hz2; clear hz2
  have HL4 := Aside0.mk hl4; clear hl4
  have HMN := Aside0.mk hmn; clear hmn
  have HLEN := Aside0.mk hlen; clear hlen hmq hm
  refine wp_region_still_tail 8 (by kernel_rfl) (by kernel_rfl) ?_
  simp only [List.take_succ_cons, List.take_zero, List.drop_succ_cons, List.drop_zero]
  repeat still_step
  refine wpStill_nil ?_
  change wpList _ _ _ _ _ w8.drew
  have hA := Aside0.mk (HB8.out.below (Below.refl _ _).drew)
  replace HF := Aside0.mk (HF.out.below (Below.refl _ _).drew)
  skip
  generalize w8.drew = w10 at *
  clear q1 q2 q2b q3 q3b q4 q5
  refine copyB rfl (.tmp 126) (.tmp 129) 104 104 rfl 5 Tryz.underlying104 (by kernel_rfl) _ _ _ _ _ _ rfl rfl g1 (r + L7) zs1 hA.out ((zs1.drop (r + L4)).take (min (m - (r + L4)) (m - (r + L7)))) ?hn ?hpos ?hfit ?_
  case hn => exact HMV.out
  case hpos => intro hp; rw [HMV.out] at hp; have := HMN.out; exact ⟨if_neg (by omega), ⟨g1, r + L4, none⟩, if_neg (by omega), fun j hj => cut_cell hA.out _ _ _ (by omega) hj⟩
  case hfit => intro hp; rw [HMV.out]; have := HMN.out; omega
  intro w11 hb11 hf11 hz11
  have ho11 := hf11.own HF.out.own (fun k hk he => hne1 (by rw [hk, he]))
  replace HB11 := Aside0.mk hb11; replace HF11 := Aside0.mk hf11; replace HO11 := Aside0.mk ho11; clear hb11 hf11 ho11 hz11
  have e2 : (n : Int) + ((L7 : Int) - (L4 : Int)) = (m : Int) := by have := HMN.out; omega
  go_wp2_with ((with_reducible refine gate_builtin (b := .copy) (xs := #[.tmp 136, .tmp 137]) rfl ?_); have hsr := own_src HO11.out; (have hcl : r + L7 ≤ m := (by have := HMN.out; omega)); refine copyB rfl (.tmp 136) (.tmp 137) 104 104 rfl 5 Tryz.underlying104 (by kernel_rfl) (some ⟨g1, r, none⟩) A7 (m - r) (m - r) L7 c7 ?hd ?hs g1 r _ HB11.out (bytesOf val') ?hn ?hpos ?hfit ?_; (case hd => first | rfl | (go_simp; done) | (go_simp; rfl)); (case hs => rfl); (case hn => show _ = min L7 (m - r); omega); (case hpos => intro hp; obtain ⟨ad, ha, hc⟩ := hsr.2 (by omega); exact ⟨rfl, ad, ha, fun j hj => hc j (by omega)⟩); (case hfit => intro hp; rw [HZ2.out]; omega); intro w13 hb13 hf13 hz13; replace HB13 := Aside0.mk hb13; replace HF13 := Aside0.mk hf13; clear hb13 hf13 hz13 hsr)
  all_goals
   go_ret3
   have hz3 := spl_length (spl zs1 (r + L7) ((zs1.drop (r + L4)).take (min (m - (r + L4)) (m - (r + L7))))) r (bytesOf val') (by rw [HZ2.out]; have := HMN.out; omega)
   rw [HZ2.out] at hz3
   refine ⟨g1, _, _, _, _, ?_, HB13.out, ?_, ?_, ?_, ?_, HF13.out.own HO11.out (fun k hk he => hne1 (by rw [hk, he])), HF.out.at_, hne1, ?_⟩
   ·rw [HLEN.out, hz3]; first | (rw [show zs1.length = m from by omega]; rfl) | (rw [show zs1.length = m from by omega, show m = r + L7 from by assumption]; rfl) 
   ·rw [HLEN.out, hz3]; omega
   ·rw [hz3]; omega
   ·rw [HLEN.out, HSPM.out, ← HL4.out, hout.out]
   ·exact .inr hg1
   ·exact ((HF.out.fr.mono (fun _ _ h => .inr h)).trans HF11.out (fun k hk h => by omega)).trans HF13.out (fun k hk h => by omega)
 ·have hL : (bytesOf val').length = L7 := by rw [bytesOf_length]; omega
  have hmq := hm.out
  have hmn : m = n + L7 - L4 := by omega
  have q1 : IntKind.i64.wrap ((r : Int) + (L7 : Int)) = (r : Int) + L7 := IntWalk.i64_in _ (by omega)
  have q2 : (0 : Int) ≤ (r : Int) + L7 := by omega
  have q2b : (r : Int) + L7 ≤ (zs.length : Int) := by omega
  have q3 : (0 : Int) ≤ (r : Int) + L4 := by omega
  have q3b : (r : Int) + L4 ≤ (zs.length : Int) := by omega
  have q4 : ((r : Int) + L7).toNat = r + L7 := by omega
  have q5 : ((r : Int) + L4).toNat = r + L4 := by omega
  have hne1 := HF.out.ne hne'.out hgw
  have hmn1 : m ≤ zs.length := by omega
  have hlen : out.length = m := by rw [hout.out]; simp; omega
  have hl4 : key.size + 2 = L4 := by omega
  have hspm := spl_move zs (bytesOf val') n zs.length r L4 L7 (by omega) (by omega) (by omega) (by omega) hL
  rw [← hmn] at hspm
  have hmv : ((zs.drop (r + L4)).take (min (zs.length - (r + L4)) (zs.length - (r + L7)))).length = min (zs.length - (r + L4)) (zs.length - (r + L7)) := by simp; try omega
  have hz2 : (spl zs (r + L7) ((zs.drop (r + L4)).take (min (zs.length - (r + L4)) (zs.length - (r + L7))))).length = zs.length := spl_length _ _ _ (by rw [hmv]; omega)
  have HSPM := Aside0.mk hspm; clear hspm
  have HMV := Aside0.mk hmv; clear hmv
  have HZ2 := Aside0.mk hz2; clear hz2
  have HL4 := Aside0.mk hl4; clear hl4
  have HMN := Aside0.mk hmn; clear hmn
  have HLEN := Aside0.mk hlen; clear hlen hmq hm
  refine wp_region_still_tail 8 (by kernel_rfl) (by kernel_rfl) ?_
  simp only [List.take_succ_cons, List.take_zero, List.drop_succ_cons, List.drop_zero]
  repeat still_step
  refine wpStill_nil ?_
  change wpList _ _ _ _ _ w7.drew
  have hA := Aside0.mk ((hp'.out.fr HF.out.fr hne'.out).below (Below.refl _ _).drew)
  replace HF := Aside0.mk (HF.out.below (Below.refl _ _).drew)
  skip
  generalize w7.drew = w10 at *
  clear q1 q2 q2b q3 q3b q4 q5
  refine copyB rfl (.tmp 126) (.tmp 129) 104 104 rfl 5 Tryz.underlying104 (by kernel_rfl) _ _ _ _ _ _ rfl rfl g (r + L7) zs hA.out ((zs.drop (r + L4)).take (min (zs.length - (r + L4)) (zs.length - (r + L7)))) ?hn ?hpos ?hfit ?_
  case hn => exact HMV.out
  case hpos => intro hp; rw [HMV.out] at hp; have := HMN.out; exact ⟨if_neg (by omega), ⟨g, r + L4, none⟩, if_neg (by omega), fun j hj => cut_cell hA.out _ _ _ (by omega) hj⟩
  case hfit => intro hp; rw [HMV.out]; have := HMN.out; omega
  intro w11 hb11 hf11 hz11
  have ho11 := hf11.own HF.out.own (fun k hk he => hne1 (by rw [hk, he]))
  replace HB11 := Aside0.mk hb11; replace HF11 := Aside0.mk hf11; replace HO11 := Aside0.mk ho11; clear hb11 hf11 ho11 hz11
  have e2 : (n : Int) + ((L7 : Int) - (L4 : Int)) = (m : Int) := by have := HMN.out; omega
  go_wp2_with ((with_reducible refine gate_builtin (b := .copy) (xs := #[.tmp 136, .tmp 137]) rfl ?_); have hsr := own_src HO11.out; (have hcl : r + L7 ≤ m := (by have := HMN.out; omega)); refine copyB rfl (.tmp 136) (.tmp 137) 104 104 rfl 5 Tryz.underlying104 (by kernel_rfl) (some ⟨g, r, none⟩) A7 (m - r) (zs.length - r) L7 c7 ?hd ?hs g r _ HB11.out (bytesOf val') ?hn ?hpos ?hfit ?_; (case hd => first | rfl | (go_simp; done) | (go_simp; rfl)); (case hs => rfl); (case hn => show _ = min L7 (m - r); omega); (case hpos => intro hp; obtain ⟨ad, ha, hc⟩ := hsr.2 (by omega); exact ⟨rfl, ad, ha, fun j hj => hc j (by omega)⟩); (case hfit => intro hp; rw [HZ2.out]; omega); intro w13 hb13 hf13 hz13; replace HB13 := Aside0.mk hb13; replace HF13 := Aside0.mk hf13; clear hb13 hf13 hz13 hsr)
  all_goals
   go_ret3
   have hz3 := spl_length (spl zs (r + L7) ((zs.drop (r + L4)).take (min (zs.length - (r + L4)) (zs.length - (r + L7))))) r (bytesOf val') (by rw [HZ2.out]; have := HMN.out; omega)
   rw [HZ2.out] at hz3
   refine ⟨g, _, _, _, _, ?_, HB13.out, ?_, ?_, ?_, ?_, HF13.out.own HO11.out (fun k hk he => hne1 (by rw [hk, he])), HF.out.at_, hne1, ?_⟩
   ·rw [HLEN.out, hz3]; first | rfl | (simp only [*]; rfl)
   ·rw [HLEN.out, hz3]; omega
   ·rw [hz3]; omega
   ·rw [HLEN.out, HSPM.out, ← HL4.out, hout.out]
   ·exact .inl rfl
   ·exact ((HF.out.fr.mono (fun _ _ h => .inr h)).trans HF11.out (fun _ _ h => .inl h)).trans HF13.out (fun _ _ h => .inl h)
 ·have hL : (bytesOf val').length = L7 := by rw [bytesOf_length]; omega
  have hmq := hm.out
  have hmn : m = n + L7 - L4 := by omega
  have q1 : IntKind.i64.wrap ((r : Int) + (L7 : Int)) = (r : Int) + L7 := IntWalk.i64_in _ (by omega)
  have q2 : (0 : Int) ≤ (r : Int) + L7 := by omega
  have q2b : (r : Int) + L7 ≤ (n : Int) := by omega
  have q3 : (0 : Int) ≤ (r : Int) + L4 := by omega
  have q3b : (r : Int) + L4 ≤ (n : Int) := by omega
  have q4 : ((r : Int) + L7).toNat = r + L7 := by omega
  have q5 : ((r : Int) + L4).toNat = r + L4 := by omega
  have hne1 := HF.out.ne hne'.out hgw
  have hmn1 : m ≤ n := by omega
  have hlen : out.length = m := by rw [hout.out]; simp; omega
  have hl4 : key.size + 2 = L4 := by omega
  have hspm := spl_move zs (bytesOf val') n n r L4 L7 (by omega) (by omega) (by omega) (by omega) hL
  rw [← hmn] at hspm
  have hmv : ((zs.drop (r + L4)).take (min (n - (r + L4)) (n - (r + L7)))).length = min (n - (r + L4)) (n - (r + L7)) := by simp; try omega
  have hz2 : (spl zs (r + L7) ((zs.drop (r + L4)).take (min (n - (r + L4)) (n - (r + L7))))).length = zs.length := spl_length _ _ _ (by rw [hmv]; omega)
  have HSPM := Aside0.mk hspm; clear hspm
  have HMV := Aside0.mk hmv; clear hmv
  have HZ2 := Aside0.mk hz2; clear hz2
  have HL4 := Aside0.mk hl4; clear hl4
  have HMN := Aside0.mk hmn; clear hmn
  have HLEN := Aside0.mk hlen; clear hlen hmq hm
  refine wp_region_still_tail 8 (by kernel_rfl) (by kernel_rfl) ?_
  simp only [List.take_succ_cons, List.take_zero, List.drop_succ_cons, List.drop_zero]
  repeat still_step
  refine wpStill_nil ?_
  change wpList _ _ _ _ _ w7.drew
  have hA := Aside0.mk ((hp'.out.fr HF.out.fr hne'.out).below (Below.refl _ _).drew)
  replace HF := Aside0.mk (HF.out.below (Below.refl _ _).drew)
  skip
  generalize w7.drew = w10 at *
  clear q1 q2 q2b q3 q3b q4 q5
  refine copyB rfl (.tmp 126) (.tmp 129) 104 104 rfl 5 Tryz.underlying104 (by kernel_rfl) _ _ _ _ _ _ rfl rfl g (r + L7) zs hA.out ((zs.drop (r + L4)).take (min (n - (r + L4)) (n - (r + L7)))) ?hn ?hpos ?hfit ?_
  case hn => exact HMV.out
  case hpos => intro hp; rw [HMV.out] at hp; have := HMN.out; exact ⟨if_neg (by omega), ⟨g, r + L4, none⟩, if_neg (by omega), fun j hj => cut_cell hA.out _ _ _ (by omega) hj⟩
  case hfit => intro hp; rw [HMV.out]; have := HMN.out; omega
  intro w11 hb11 hf11 hz11
  have ho11 := hf11.own HF.out.own (fun k hk he => hne1 (by rw [hk, he]))
  replace HB11 := Aside0.mk hb11; replace HF11 := Aside0.mk hf11; replace HO11 := Aside0.mk ho11; clear hb11 hf11 ho11 hz11
  have e2 : (n : Int) + ((L7 : Int) - (L4 : Int)) = (m : Int) := by have := HMN.out; omega
  go_wp2_with ((with_reducible refine gate_builtin (b := .copy) (xs := #[.tmp 136, .tmp 137]) rfl ?_); have hsr := own_src HO11.out; (have hcl : r + L7 ≤ m := (by have := HMN.out; omega)); refine copyB rfl (.tmp 136) (.tmp 137) 104 104 rfl 5 Tryz.underlying104 (by kernel_rfl) (some ⟨g, r, none⟩) A7 (m - r) (zs.length - r) L7 c7 ?hd ?hs g r _ HB11.out (bytesOf val') ?hn ?hpos ?hfit ?_; (case hd => first | rfl | (go_simp; done) | (go_simp; rfl)); (case hs => rfl); (case hn => show _ = min L7 (m - r); omega); (case hpos => intro hp; obtain ⟨ad, ha, hc⟩ := hsr.2 (by omega); exact ⟨rfl, ad, ha, fun j hj => hc j (by omega)⟩); (case hfit => intro hp; rw [HZ2.out]; omega); intro w13 hb13 hf13 hz13; replace HB13 := Aside0.mk hb13; replace HF13 := Aside0.mk hf13; clear hb13 hf13 hz13 hsr)
  all_goals
   go_ret3
   have hz3 := spl_length (spl zs (r + L7) ((zs.drop (r + L4)).take (min (n - (r + L4)) (n - (r + L7))))) r (bytesOf val') (by rw [HZ2.out]; have := HMN.out; omega)
   rw [HZ2.out] at hz3
   refine ⟨g, _, _, _, _, ?_, HB13.out, ?_, ?_, ?_, ?_, HF13.out.own HO11.out (fun k hk he => hne1 (by rw [hk, he])), HF.out.at_, hne1, ?_⟩
   ·rw [HLEN.out, hz3]; first | rfl | (simp only [*]; rfl)
   ·rw [HLEN.out, hz3]; omega
   ·rw [hz3]; omega
   ·rw [HLEN.out, HSPM.out, ← HL4.out, hout.out]
   ·exact .inl rfl
   ·exact ((HF.out.fr.mono (fun _ _ h => .inr h)).trans HF11.out (fun _ _ h => .inl h)).trans HF13.out (fun _ _ h => .inl h)
end H
end Go.Proofs.YtclmjmfcggkpaaaGreatDoor
set_option linter.unusedSimpArgs false
set_option linter.unusedVariables false
namespace Go.Proofs.YtclmjmfcggkpaaaGreatDoor
open Go.RowKit Go.Proofs.YtclmjmfcggkpaaaGreatDoorW.PrintWords Go.Proofs.YtclmjmfcggkpaaaGreatDoorW.PrintLast Go.Proofs.YtclmjmfcggkpaaaGreatDoorW.PrintMore
namespace H
set_option maxHeartbeats 1000000 in
set_option maxRecDepth 100000 in
theorem rpe_tf (B g n : Nat) (zs : List Int) (vb : Value) (nb : Nat) (xb : List Value) (key val : ByteArray) (r : Nat) (w : World)
 (hp : BAt w g zs) (hn : n ≤ zs.length) (hzl : zs.length ≤ 9223372036854775807) (hn2 : n ≤ 1099511627776) (ho : w.ownsRow B 5 1 vb nb xb) (hB : B ≤ w.heap.size) (hne : vb.ownBlock ≠ some g)
 (hk : key.size ≤ 1000) (hv : val.size ≤ 1000)
 (hr0 : ∃ k, PX.smhttp_index.f k (strOfNums (zs.take n)) (strOfNums (123 :: (bytesOf key ++ [125]))) = some (-1)) (hr : ∃ k, PX.smhttp_index.f k (strOfNums (zs.take n)) (strOfNums (123 :: (bytesOf key ++ [43, 125]))) = some (r : Int)) (hrn : r + (key.size + 3) ≤ n)
 (out : List Int) (hout : out = (zs.take n).take r ++ bytesOf val ++ (zs.take n).drop (r + (key.size + 3))) :
 Calls Tryz.prog 164 #[.slice (some ⟨g, 0, none⟩) n zs.length, vb, .string key, .string val, .bool false] w (RP B w g vb out) := by
 have hgw := hp.lt
 replace hout := Aside0.mk hout
 have hp' := Aside0.mk hp; clear hp
 have hne' := Aside0.mk hne; clear hne
 go_enter Tryz.func164, Tryz.ntmps164
 go_wp2_with fail
 refine (bufCap_call B vb nb xb (key.size + 2) w ho hB (by omega) (by omega)).mono ?_
 rintro e w1 ⟨v1, rfl, ho1, hb1, hat1⟩
 have HF : FB B w vb w1 v1 [] := ⟨ho1, hat1, Fr.of_below hb1⟩
 replace HF := Aside0.mk HF; clear ho1 hb1 hat1 ho
 go_wp2_with (first | ((with_reducible refine gate_builtin (b := .append) (xs := #[.tmp 25, .tmp 26]) rfl ?_); at_builtin; refine print_append_num (w0 := w1) B rfl (.tmp 25) (.tmp 26) 104 5 .u8 1 rfl Tryz.underlying104 inf5 (by omega) v1 [] 123 rfl rfl HF.out.own (Below.refl _ _) (HF.out.base hB) (by simp [bytesOf_length]; try omega) ?_; intro v2 w2 ho2 hb2 hg2 hat2; replace HF := Aside0.mk (HF.out.next ho2 hg2 hat2); clear ho2 hb2 hg2 hat2) | ((with_reducible refine gate_builtin (b := .append) (xs := #[.tmp 28, .tmp 29]) rfl ?_); at_builtin; refine append_strF (w0 := w2) B rfl (.tmp 28) (.tmp 29) 104 9 5 rfl Tryz.underlying104 Tryz.underlying9 inf5 v2 ([] ++ [123]) key rfl rfl HF.out.own (Below.refl _ _) (HF.out.base hB) (by simp [bytesOf_length]; try omega) ?_; intro v3 w3 ho3 hg3 hat3; replace HF := Aside0.mk (HF.out.next ho3 hg3 hat3); clear ho3 hg3 hat3) | ((with_reducible refine gate_builtin (b := .append) (xs := #[.tmp 31, .tmp 32]) rfl ?_); at_builtin; refine print_append_num (w0 := w3) B rfl (.tmp 31) (.tmp 32) 104 5 .u8 1 rfl Tryz.underlying104 inf5 (by omega) v3 ([] ++ [123] ++ bytesOf key) 125 rfl rfl HF.out.own (Below.refl _ _) (HF.out.base hB) (by simp [bytesOf_length]; try omega) ?_; intro v4 w4 ho4 hb4 hg4 hat4; replace HF := Aside0.mk (HF.out.next ho4 hg4 hat4); have ho4' := ho4; generalize hL4 : ([] ++ [123] ++ bytesOf key ++ [125]).length = L4 at ho4'; have hL4a : L4 = key.size + 2 := (by rw [← hL4]; simp [bytesOf_length]; try omega); clear hL4; have hs1 := own_string (P := Tryz.prog) Tryz.underlying104 Tryz.underlying5 Tryz.underlying9 ho4'; have hp4 := hp'.out.fr HF.out.fr hne'.out; have hs2 := hp4.str (n := n) (c := zs.length) hn Tryz.underlying104 Tryz.underlying5 Tryz.underlying9; obtain ⟨A4, c4, rfl⟩ := own_slice ho4'; replace hL4a := Aside0.mk hL4a; clear ho4 ho4' hb4 hg4 hat4 hp4)
  )
 obtain ⟨k0, hr0⟩ := hr0
 refine (PX.smhttp_index.calls k0 _ _ (-1) _ hr0).mono ?_
 clear hr0
 rintro e w5a ⟨rfl, hd⟩
 replace HF := Aside0.mk (HF.out.below hd.below); clear hd hs1 hs2 hL4a
 go_wp2_with fail
 refine (bufCap_call B (.slice A4 L4 c4) _ _ (key.size + 3) w5a HF.out.own (HF.out.base hB) (by omega) (by omega)).mono ?_
 rintro e w6a ⟨v6a, rfl, ho6, hb6, hat6⟩
 replace HF := Aside0.mk (HF.out.next (ys := []) ho6 (grown_of_below hb6 _) hat6); clear ho6 hb6 hat6
 go_wp2_with (first | ((with_reducible refine gate_builtin (b := .append) (xs := #[.tmp 46, .tmp 47]) rfl ?_); at_builtin; refine print_append_num (w0 := w6a) B rfl (.tmp 46) (.tmp 47) 104 5 .u8 1 rfl Tryz.underlying104 inf5 (by omega) v6a [] 123 rfl rfl HF.out.own (Below.refl _ _) (HF.out.base hB) (by simp [bytesOf_length]; try omega) ?_; intro v2b w2b ho2b hb2b hg2b hat2b; replace HF := Aside0.mk (HF.out.next ho2b hg2b hat2b); clear ho2b hb2b hg2b hat2b) | ((with_reducible refine gate_builtin (b := .append) (xs := #[.tmp 49, .tmp 50]) rfl ?_); at_builtin; refine append_strF (w0 := w2b) B rfl (.tmp 49) (.tmp 50) 104 9 5 rfl Tryz.underlying104 Tryz.underlying9 inf5 v2b ([] ++ [123]) key rfl rfl HF.out.own (Below.refl _ _) (HF.out.base hB) (by simp [bytesOf_length]; try omega) ?_; intro v3b w3b ho3b hg3b hat3b; replace HF := Aside0.mk (HF.out.next ho3b hg3b hat3b); clear ho3b hg3b hat3b) | ((with_reducible refine gate_builtin (b := .append) (xs := #[.tmp 52, .tmp 53]) rfl ?_); at_builtin; refine print_append_num (w0 := w3b) B rfl (.tmp 52) (.tmp 53) 104 5 .u8 1 rfl Tryz.underlying104 inf5 (by omega) v3b ([] ++ [123] ++ bytesOf key) 43 rfl rfl HF.out.own (Below.refl _ _) (HF.out.base hB) (by simp [bytesOf_length]; try omega) ?_; intro v3c w3c ho3c hb3c hg3c hat3c; replace HF := Aside0.mk (HF.out.next ho3c hg3c hat3c); clear ho3c hb3c hg3c hat3c) | ((with_reducible refine gate_builtin (b := .append) (xs := #[.tmp 55, .tmp 56]) rfl ?_); at_builtin; refine print_append_num (w0 := w3c) B rfl (.tmp 55) (.tmp 56) 104 5 .u8 1 rfl Tryz.underlying104 inf5 (by omega) v3c ([] ++ [123] ++ bytesOf key ++ [43]) 125 rfl rfl HF.out.own (Below.refl _ _) (HF.out.base hB) (by simp [bytesOf_length]; try omega) ?_; intro v4b w4b ho4b hb4b hg4b hat4b; replace HF := Aside0.mk (HF.out.next ho4b hg4b hat4b); have ho4' := ho4b; generalize hL4 : ([] ++ [123] ++ bytesOf key ++ [43] ++ [125]).length = L4b at ho4'; have hL4a : L4b = key.size + 3 := (by rw [← hL4]; simp [bytesOf_length]; try omega); clear hL4; have hs1 := own_string (P := Tryz.prog) Tryz.underlying104 Tryz.underlying5 Tryz.underlying9 ho4'; have hp4 := hp'.out.fr HF.out.fr hne'.out; have hs2 := hp4.str (n := n) (c := zs.length) hn Tryz.underlying104 Tryz.underlying5 Tryz.underlying9; obtain ⟨A4b, c4b, rfl⟩ := own_slice ho4'; replace hL4a := Aside0.mk hL4a; clear ho4b ho4' hb4b hg4b hat4b hp4))
 obtain ⟨kk, hr⟩ := hr
 refine (PX.smhttp_index.calls kk _ _ (r : Int) _ hr).mono ?_
 clear hr
 rintro e w5 ⟨rfl, hd⟩
 replace HF := Aside0.mk (HF.out.below hd.below); clear hd hs1 hs2
 have hL4bb : L4b ≤ key.size + 3 := by rw [hL4a.out]; omega
 have hL4bc : key.size + 3 ≤ L4b := by rw [hL4a.out]; omega
 clear hL4a
 go_wp2_with fail
 refine (bufCap_call B (.slice A4b L4b c4b) _ _ val.size w5 HF.out.own (HF.out.base hB) (by omega) (by omega)).mono ?_
 rintro e w6 ⟨v6, rfl, ho6, hb6, hat6⟩
 replace HF := Aside0.mk (HF.out.next (ys := []) ho6 (grown_of_below hb6 _) hat6); clear ho6 hb6 hat6
 go_wp2_with (first | ((with_reducible refine gate_builtin (b := .copy) (xs := #[.tmp 118, .tmp 119]) rfl ?_); have hcm : zs.length ≤ m := (by have := hm.out; omega); refine copyB rfl (.tmp 118) (.tmp 119) 104 104 rfl 5 Tryz.underlying104 (by kernel_rfl) (some ⟨w7.heap.size, 0, none⟩) (some ⟨g, 0, none⟩) m m zs.length zs.length rfl rfl w7.heap.size 0 (List.replicate m 0) (BAt.make w7 m) zs ?hn ?hpos ?hfit ?_; (case hn => show _ = min zs.length m; omega); (case hpos => intro hp; exact ⟨rfl, _, rfl, fun j hj => by rw [add_plain]; exact ((hp'.out.fr HF.out.fr hne'.out).below (below_alloc (Below.refl _ _) _)).cell j hj⟩); (case hfit => intro hp; simp; omega); intro w8 hb8 hf8 hz8) | ((with_reducible refine gate_builtin (b := .copy) (xs := #[.tmp 93, .tmp 94]) rfl ?_); have hq : L4b = L7 := (by have h0 : ((L4b : Int) == (L7 : Int)) = true := (by assumption); have h1 := beq_iff_eq.1 h0; omega); have hsr := HF.out.src; have hbl := bytesOf_length val; refine copyB rfl (.tmp 93) (.tmp 94) 104 104 rfl 5 Tryz.underlying104 (by kernel_rfl) (some ⟨g, r, none⟩) A7 (n - r) (zs.length - r) L7 c7 ?hd ?hs g r zs (hp'.out.fr HF.out.fr hne'.out) (bytesOf val) ?hn ?hpos ?hfit ?_; (case hd => first | rfl | (go_simp; done) | (go_simp; rfl)); (case hs => rfl); (case hn => show _ = min L7 (n - r); omega); (case hpos => intro hp; obtain ⟨ad, ha, hc⟩ := hsr.2 (by omega); exact ⟨rfl, ad, ha, fun j hj => hc j (by omega)⟩); (case hfit => intro hp; omega); intro w8 hb8 hf8 hz8; replace hq := Aside0.mk hq; clear hsr) | ((with_reducible refine gate_builtin (b := .append) (xs := #[.tmp 80, .tmp 81]) rfl ?_); at_builtin; refine append_strF (w0 := w6) B rfl (.tmp 80) (.tmp 81) 104 9 5 rfl Tryz.underlying104 Tryz.underlying9 inf5 v6 [] val rfl rfl HF.out.own (Below.refl _ _) (HF.out.base hB) (by simp [bytesOf_length]; try omega) ?_; intro v7 w7 ho7 hg7 hat7; replace HF := Aside0.mk (HF.out.next ho7 hg7 hat7); have ho7' := ho7; generalize hL7 : ([] ++ bytesOf val).length = L7 at ho7'; have hL7a : L7 = val.size := (by rw [← hL7]; simp [bytesOf_length]); clear hL7; have hL7b : L7 ≤ val.size := (by omega); have hL7c : val.size ≤ L7 := (by omega); clear hL7a; obtain ⟨A7, c7, rfl⟩ := own_slice ho7'; have e1 : (r : Int) + (L4b : Int) - (r : Int) = (L4b : Int) := (by omega); obtain ⟨m, hm⟩ : ∃ m : Nat, (n : Int) + ((L7 : Int) - (L4b : Int)) = (m : Int) := ⟨n + L7 - L4b, by omega⟩; have hmk := print_make (P := Tryz.prog) 104 5 .u8 1 Tryz.underlying104 inf5 (by omega) m (by omega); simp only [← hm] at hmk; replace hm := Aside0.mk hm; clear ho7 ho7' hg7 hat7))
 ·go_ret3
  have hvn := HF.out.ne hne'.out hgw
  have hlen : out.length = n := by
   have h1 := hq.out
   rw [hout.out]; simp; omega
  have hsp := spl_same zs (bytesOf val) n r (key.size + 3) hrn hn (by have h1 := hq.out; omega)
  refine ⟨g, spl zs r (bytesOf val), _, _, _, ?_, hb8, ?_, ?_, ?_, .inl rfl, hf8.own HF.out.own (fun k hk he => hvn (by rw [hk, he])), HF.out.at_, hvn, ?_⟩
  ·rw [hlen, spl_length _ _ _ (by have h1 := hq.out; omega)]; rfl
  ·rw [hlen, spl_length _ _ _ (by have h1 := hq.out; omega)]; exact hn
  ·rw [spl_length _ _ _ (by have h1 := hq.out; omega)]; exact hzl
  ·rw [hlen, hout.out]; exact hsp
  ·exact (HF.out.fr.mono (fun _ _ h => .inr h)).trans hf8 (fun _ _ h => .inl h)
 ·have hgl : w.heap.size ≤ w7.heap.size := HF.out.fr.size
  have hl7 := own_lt HF.out.own
  have HNE : Aside0 ((Value.slice A7 L7 c7).ownBlock ≠ some w7.heap.size) := ⟨fun e => by have := hl7 _ e; omega⟩
  clear hl7
  have HF8 := (HF.out.below (below_alloc (Below.refl _ _) (.cells (madeCells #[.int .u8 0] m) 5))).far hf8 hgl HNE.out
  replace HF := Aside0.mk HF8; clear HF8 hf8 hz8 hmk
  have htk : (spl (List.replicate m (0 : Int)) 0 zs).take n = zs.take n := by
   have e : spl (List.replicate m (0 : Int)) 0 zs = zs ++ (List.replicate m (0 : Int)).drop zs.length := by simp [spl]
   rw [e, List.take_append_of_le_length hn]
  have hzl1 : (spl (List.replicate m (0 : Int)) 0 zs).length = m := by rw [spl_length _ _ _ (by simp; omega)]; simp
  have HB8 := Aside0.mk hb8; clear hb8
  generalize spl (List.replicate m (0 : Int)) 0 zs = zs1 at *
  have hzl1a : zs1.length ≤ m := by omega
  have hzl1b : m ≤ zs1.length := by omega
  clear hzl1
  obtain ⟨g1, hg1⟩ : ∃ g1, g1 = w7.heap.size := ⟨_, rfl⟩
  rw [← hg1] at HB8 HNE ⊢
  replace hg1 : w.heap.size ≤ g1 := by omega
  clear hgl
  go_wp2_with fail
  have hL : (bytesOf val).length = L7 := by rw [bytesOf_length]; omega
  have hmq := hm.out
  have hmn : m = n + L7 - L4b := by omega
  have q1 : IntKind.i64.wrap ((r : Int) + (L7 : Int)) = (r : Int) + L7 := IntWalk.i64_in _ (by omega)
  have q2 : (0 : Int) ≤ (r : Int) + L7 := by omega
  have q2b : (r : Int) + L7 ≤ (m : Int) := by omega
  have q3 : (0 : Int) ≤ (r : Int) + L4b := by omega
  have q3b : (r : Int) + L4b ≤ (m : Int) := by omega
  have q4 : ((r : Int) + L7).toNat = r + L7 := by omega
  have q5 : ((r : Int) + L4b).toNat = r + L4b := by omega
  have hne1 := HNE.out
  have hmn1 : m ≤ m := by omega
  have hlen : out.length = m := by rw [hout.out]; simp; omega
  have hl4 : key.size + 3 = L4b := by omega
  have hspm := spl_move zs1 (bytesOf val) n m r L4b L7 (by omega) (by omega) (by omega) (by omega) hL
  rw [← hmn, htk] at hspm
  have hmv : ((zs1.drop (r + L4b)).take (min (m - (r + L4b)) (m - (r + L7)))).length = min (m - (r + L4b)) (m - (r + L7)) := by simp; try omega
  have hz2 : (spl zs1 (r + L7) ((zs1.drop (r + L4b)).take (min (m - (r + L4b)) (m - (r + L7))))).length = zs1.length := spl_length _ _ _ (by rw [hmv]; omega)
  have HSPM := Aside0.mk hspm; clear hspm
  have HMV := Aside0.mk hmv; clear hmv
  have HZ2 := Aside0.mk hz2; clear hz2
  have HL4b := Aside0.mk hl4; clear hl4
  have HMN := Aside0.mk hmn; clear hmn
  have HLEN := Aside0.mk hlen; clear hlen hmq hm
  refine wp_region_still_tail 8 (by kernel_rfl) (by kernel_rfl) ?_
  simp only [List.take_succ_cons, List.take_zero, List.drop_succ_cons, List.drop_zero]
  repeat still_step
  refine wpStill_nil ?_
  change wpList _ _ _ _ _ w8.drew
  have hA := Aside0.mk (HB8.out.below (Below.refl _ _).drew)
  replace HF := Aside0.mk (HF.out.below (Below.refl _ _).drew)
  skip
  generalize w8.drew = w10 at *
  clear q1 q2 q2b q3 q3b q4 q5
  refine copyB rfl (.tmp 126) (.tmp 129) 104 104 rfl 5 Tryz.underlying104 (by kernel_rfl) _ _ _ _ _ _ rfl rfl g1 (r + L7) zs1 hA.out ((zs1.drop (r + L4b)).take (min (m - (r + L4b)) (m - (r + L7)))) ?hn ?hpos ?hfit ?_
  case hn => exact HMV.out
  case hpos => intro hp; rw [HMV.out] at hp; have := HMN.out; exact ⟨if_neg (by omega), ⟨g1, r + L4b, none⟩, if_neg (by omega), fun j hj => cut_cell hA.out _ _ _ (by omega) hj⟩
  case hfit => intro hp; rw [HMV.out]; have := HMN.out; omega
  intro w11 hb11 hf11 hz11
  have ho11 := hf11.own HF.out.own (fun k hk he => hne1 (by rw [hk, he]))
  replace HB11 := Aside0.mk hb11; replace HF11 := Aside0.mk hf11; replace HO11 := Aside0.mk ho11; clear hb11 hf11 ho11 hz11
  have e2 : (n : Int) + ((L7 : Int) - (L4b : Int)) = (m : Int) := by have := HMN.out; omega
  go_wp2_with ((with_reducible refine gate_builtin (b := .copy) (xs := #[.tmp 136, .tmp 137]) rfl ?_); have hsr := own_src HO11.out; (have hcl : r + L7 ≤ m := (by have := HMN.out; omega)); refine copyB rfl (.tmp 136) (.tmp 137) 104 104 rfl 5 Tryz.underlying104 (by kernel_rfl) (some ⟨g1, r, none⟩) A7 (m - r) (m - r) L7 c7 ?hd ?hs g1 r _ HB11.out (bytesOf val) ?hn ?hpos ?hfit ?_; (case hd => first | rfl | (go_simp; done) | (go_simp; rfl)); (case hs => rfl); (case hn => show _ = min L7 (m - r); omega); (case hpos => intro hp; obtain ⟨ad, ha, hc⟩ := hsr.2 (by omega); exact ⟨rfl, ad, ha, fun j hj => hc j (by omega)⟩); (case hfit => intro hp; rw [HZ2.out]; omega); intro w13 hb13 hf13 hz13; replace HB13 := Aside0.mk hb13; replace HF13 := Aside0.mk hf13; clear hb13 hf13 hz13 hsr)
  all_goals
   go_ret3
   have hz3 := spl_length (spl zs1 (r + L7) ((zs1.drop (r + L4b)).take (min (m - (r + L4b)) (m - (r + L7))))) r (bytesOf val) (by rw [HZ2.out]; have := HMN.out; omega)
   rw [HZ2.out] at hz3
   refine ⟨g1, _, _, _, _, ?_, HB13.out, ?_, ?_, ?_, ?_, HF13.out.own HO11.out (fun k hk he => hne1 (by rw [hk, he])), HF.out.at_, hne1, ?_⟩
   ·rw [HLEN.out, hz3]; first | (rw [show zs1.length = m from by omega]; rfl) | (rw [show zs1.length = m from by omega, show m = r + L7 from by assumption]; rfl) 
   ·rw [HLEN.out, hz3]; omega
   ·rw [hz3]; omega
   ·rw [HLEN.out, HSPM.out, ← HL4b.out, hout.out]
   ·exact .inr hg1
   ·exact ((HF.out.fr.mono (fun _ _ h => .inr h)).trans HF11.out (fun k hk h => by omega)).trans HF13.out (fun k hk h => by omega)
 ·have hL : (bytesOf val).length = L7 := by rw [bytesOf_length]; omega
  have hmq := hm.out
  have hmn : m = n + L7 - L4b := by omega
  have q1 : IntKind.i64.wrap ((r : Int) + (L7 : Int)) = (r : Int) + L7 := IntWalk.i64_in _ (by omega)
  have q2 : (0 : Int) ≤ (r : Int) + L7 := by omega
  have q2b : (r : Int) + L7 ≤ (zs.length : Int) := by omega
  have q3 : (0 : Int) ≤ (r : Int) + L4b := by omega
  have q3b : (r : Int) + L4b ≤ (zs.length : Int) := by omega
  have q4 : ((r : Int) + L7).toNat = r + L7 := by omega
  have q5 : ((r : Int) + L4b).toNat = r + L4b := by omega
  have hne1 := HF.out.ne hne'.out hgw
  have hmn1 : m ≤ zs.length := by omega
  have hlen : out.length = m := by rw [hout.out]; simp; omega
  have hl4 : key.size + 3 = L4b := by omega
  have hspm := spl_move zs (bytesOf val) n zs.length r L4b L7 (by omega) (by omega) (by omega) (by omega) hL
  rw [← hmn] at hspm
  have hmv : ((zs.drop (r + L4b)).take (min (zs.length - (r + L4b)) (zs.length - (r + L7)))).length = min (zs.length - (r + L4b)) (zs.length - (r + L7)) := by simp; try omega
  have hz2 : (spl zs (r + L7) ((zs.drop (r + L4b)).take (min (zs.length - (r + L4b)) (zs.length - (r + L7))))).length = zs.length := spl_length _ _ _ (by rw [hmv]; omega)
  have HSPM := Aside0.mk hspm; clear hspm
  have HMV := Aside0.mk hmv; clear hmv
  have HZ2 := Aside0.mk hz2; clear hz2
  have HL4b := Aside0.mk hl4; clear hl4
  have HMN := Aside0.mk hmn; clear hmn
  have HLEN := Aside0.mk hlen; clear hlen hmq hm
  refine wp_region_still_tail 8 (by kernel_rfl) (by kernel_rfl) ?_
  simp only [List.take_succ_cons, List.take_zero, List.drop_succ_cons, List.drop_zero]
  repeat still_step
  refine wpStill_nil ?_
  change wpList _ _ _ _ _ w7.drew
  have hA := Aside0.mk ((hp'.out.fr HF.out.fr hne'.out).below (Below.refl _ _).drew)
  replace HF := Aside0.mk (HF.out.below (Below.refl _ _).drew)
  skip
  generalize w7.drew = w10 at *
  clear q1 q2 q2b q3 q3b q4 q5
  refine copyB rfl (.tmp 126) (.tmp 129) 104 104 rfl 5 Tryz.underlying104 (by kernel_rfl) _ _ _ _ _ _ rfl rfl g (r + L7) zs hA.out ((zs.drop (r + L4b)).take (min (zs.length - (r + L4b)) (zs.length - (r + L7)))) ?hn ?hpos ?hfit ?_
  case hn => exact HMV.out
  case hpos => intro hp; rw [HMV.out] at hp; have := HMN.out; exact ⟨if_neg (by omega), ⟨g, r + L4b, none⟩, if_neg (by omega), fun j hj => cut_cell hA.out _ _ _ (by omega) hj⟩
  case hfit => intro hp; rw [HMV.out]; have := HMN.out; omega
  intro w11 hb11 hf11 hz11
  have ho11 := hf11.own HF.out.own (fun k hk he => hne1 (by rw [hk, he]))
  replace HB11 := Aside0.mk hb11; replace HF11 := Aside0.mk hf11; replace HO11 := Aside0.mk ho11; clear hb11 hf11 ho11 hz11
  have e2 : (n : Int) + ((L7 : Int) - (L4b : Int)) = (m : Int) := by have := HMN.out; omega
  go_wp2_with ((with_reducible refine gate_builtin (b := .copy) (xs := #[.tmp 136, .tmp 137]) rfl ?_); have hsr := own_src HO11.out; (have hcl : r + L7 ≤ m := (by have := HMN.out; omega)); refine copyB rfl (.tmp 136) (.tmp 137) 104 104 rfl 5 Tryz.underlying104 (by kernel_rfl) (some ⟨g, r, none⟩) A7 (m - r) (zs.length - r) L7 c7 ?hd ?hs g r _ HB11.out (bytesOf val) ?hn ?hpos ?hfit ?_; (case hd => first | rfl | (go_simp; done) | (go_simp; rfl)); (case hs => rfl); (case hn => show _ = min L7 (m - r); omega); (case hpos => intro hp; obtain ⟨ad, ha, hc⟩ := hsr.2 (by omega); exact ⟨rfl, ad, ha, fun j hj => hc j (by omega)⟩); (case hfit => intro hp; rw [HZ2.out]; omega); intro w13 hb13 hf13 hz13; replace HB13 := Aside0.mk hb13; replace HF13 := Aside0.mk hf13; clear hb13 hf13 hz13 hsr)
  all_goals
   go_ret3
   have hz3 := spl_length (spl zs (r + L7) ((zs.drop (r + L4b)).take (min (zs.length - (r + L4b)) (zs.length - (r + L7))))) r (bytesOf val) (by rw [HZ2.out]; have := HMN.out; omega)
   rw [HZ2.out] at hz3
   refine ⟨g, _, _, _, _, ?_, HB13.out, ?_, ?_, ?_, ?_, HF13.out.own HO11.out (fun k hk he => hne1 (by rw [hk, he])), HF.out.at_, hne1, ?_⟩
   ·rw [HLEN.out, hz3]; first | rfl | (simp only [*]; rfl)
   ·rw [HLEN.out, hz3]; omega
   ·rw [hz3]; omega
   ·rw [HLEN.out, HSPM.out, ← HL4b.out, hout.out]
   ·exact .inl rfl
   ·exact ((HF.out.fr.mono (fun _ _ h => .inr h)).trans HF11.out (fun _ _ h => .inl h)).trans HF13.out (fun _ _ h => .inl h)
 ·have hL : (bytesOf val).length = L7 := by rw [bytesOf_length]; omega
  have hmq := hm.out
  have hmn : m = n + L7 - L4b := by omega
  have q1 : IntKind.i64.wrap ((r : Int) + (L7 : Int)) = (r : Int) + L7 := IntWalk.i64_in _ (by omega)
  have q2 : (0 : Int) ≤ (r : Int) + L7 := by omega
  have q2b : (r : Int) + L7 ≤ (n : Int) := by omega
  have q3 : (0 : Int) ≤ (r : Int) + L4b := by omega
  have q3b : (r : Int) + L4b ≤ (n : Int) := by omega
  have q4 : ((r : Int) + L7).toNat = r + L7 := by omega
  have q5 : ((r : Int) + L4b).toNat = r + L4b := by omega
  have hne1 := HF.out.ne hne'.out hgw
  have hmn1 : m ≤ n := by omega
  have hlen : out.length = m := by rw [hout.out]; simp; omega
  have hl4 : key.size + 3 = L4b := by omega
  have hspm := spl_move zs (bytesOf val) n n r L4b L7 (by omega) (by omega) (by omega) (by omega) hL
  rw [← hmn] at hspm
  have hmv : ((zs.drop (r + L4b)).take (min (n - (r + L4b)) (n - (r + L7)))).length = min (n - (r + L4b)) (n - (r + L7)) := by simp; try omega
  have hz2 : (spl zs (r + L7) ((zs.drop (r + L4b)).take (min (n - (r + L4b)) (n - (r + L7))))).length = zs.length := spl_length _ _ _ (by rw [hmv]; omega)
  have HSPM := Aside0.mk hspm; clear hspm
  have HMV := Aside0.mk hmv; clear hmv
  have HZ2 := Aside0.mk hz2; clear hz2
  have HL4b := Aside0.mk hl4; clear hl4
  have HMN := Aside0.mk hmn; clear hmn
  have HLEN := Aside0.mk hlen; clear hlen hmq hm
  refine wp_region_still_tail 8 (by kernel_rfl) (by kernel_rfl) ?_
  simp only [List.take_succ_cons, List.take_zero, List.drop_succ_cons, List.drop_zero]
  repeat still_step
  refine wpStill_nil ?_
  change wpList _ _ _ _ _ w7.drew
  have hA := Aside0.mk ((hp'.out.fr HF.out.fr hne'.out).below (Below.refl _ _).drew)
  replace HF := Aside0.mk (HF.out.below (Below.refl _ _).drew)
  skip
  generalize w7.drew = w10 at *
  clear q1 q2 q2b q3 q3b q4 q5
  refine copyB rfl (.tmp 126) (.tmp 129) 104 104 rfl 5 Tryz.underlying104 (by kernel_rfl) _ _ _ _ _ _ rfl rfl g (r + L7) zs hA.out ((zs.drop (r + L4b)).take (min (n - (r + L4b)) (n - (r + L7)))) ?hn ?hpos ?hfit ?_
  case hn => exact HMV.out
  case hpos => intro hp; rw [HMV.out] at hp; have := HMN.out; exact ⟨if_neg (by omega), ⟨g, r + L4b, none⟩, if_neg (by omega), fun j hj => cut_cell hA.out _ _ _ (by omega) hj⟩
  case hfit => intro hp; rw [HMV.out]; have := HMN.out; omega
  intro w11 hb11 hf11 hz11
  have ho11 := hf11.own HF.out.own (fun k hk he => hne1 (by rw [hk, he]))
  replace HB11 := Aside0.mk hb11; replace HF11 := Aside0.mk hf11; replace HO11 := Aside0.mk ho11; clear hb11 hf11 ho11 hz11
  have e2 : (n : Int) + ((L7 : Int) - (L4b : Int)) = (m : Int) := by have := HMN.out; omega
  go_wp2_with ((with_reducible refine gate_builtin (b := .copy) (xs := #[.tmp 136, .tmp 137]) rfl ?_); have hsr := own_src HO11.out; (have hcl : r + L7 ≤ m := (by have := HMN.out; omega)); refine copyB rfl (.tmp 136) (.tmp 137) 104 104 rfl 5 Tryz.underlying104 (by kernel_rfl) (some ⟨g, r, none⟩) A7 (m - r) (zs.length - r) L7 c7 ?hd ?hs g r _ HB11.out (bytesOf val) ?hn ?hpos ?hfit ?_; (case hd => first | rfl | (go_simp; done) | (go_simp; rfl)); (case hs => rfl); (case hn => show _ = min L7 (m - r); omega); (case hpos => intro hp; obtain ⟨ad, ha, hc⟩ := hsr.2 (by omega); exact ⟨rfl, ad, ha, fun j hj => hc j (by omega)⟩); (case hfit => intro hp; rw [HZ2.out]; omega); intro w13 hb13 hf13 hz13; replace HB13 := Aside0.mk hb13; replace HF13 := Aside0.mk hf13; clear hb13 hf13 hz13 hsr)
  all_goals
   go_ret3
   have hz3 := spl_length (spl zs (r + L7) ((zs.drop (r + L4b)).take (min (n - (r + L4b)) (n - (r + L7))))) r (bytesOf val) (by rw [HZ2.out]; have := HMN.out; omega)
   rw [HZ2.out] at hz3
   refine ⟨g, _, _, _, _, ?_, HB13.out, ?_, ?_, ?_, ?_, HF13.out.own HO11.out (fun k hk he => hne1 (by rw [hk, he])), HF.out.at_, hne1, ?_⟩
   ·rw [HLEN.out, hz3]; first | rfl | (simp only [*]; rfl)
   ·rw [HLEN.out, hz3]; omega
   ·rw [hz3]; omega
   ·rw [HLEN.out, HSPM.out, ← HL4b.out, hout.out]
   ·exact .inl rfl
   ·exact ((HF.out.fr.mono (fun _ _ h => .inr h)).trans HF11.out (fun _ _ h => .inl h)).trans HF13.out (fun _ _ h => .inl h)
end H
end Go.Proofs.YtclmjmfcggkpaaaGreatDoor
set_option linter.unusedSimpArgs false
set_option linter.unusedVariables false
namespace Go.Proofs.YtclmjmfcggkpaaaGreatDoor
open Go.RowKit Go.Proofs.YtclmjmfcggkpaaaGreatDoorW.PrintWords Go.Proofs.YtclmjmfcggkpaaaGreatDoorW.PrintLast Go.Proofs.YtclmjmfcggkpaaaGreatDoorW.PrintMore
namespace H
set_option maxHeartbeats 1000000 in
set_option maxRecDepth 100000 in
theorem rpe_tt (B g n : Nat) (zs : List Int) (vb : Value) (nb : Nat) (xb : List Value) (key val : ByteArray) (r : Nat) (w : World) (val' : ByteArray) (hval' : val' = strOfNums (escB true (bytesOf val))) (hv' : val'.size ≤ 4000)
 (hp : BAt w g zs) (hn : n ≤ zs.length) (hzl : zs.length ≤ 9223372036854775807) (hn2 : n ≤ 1099511627776) (ho : w.ownsRow B 5 1 vb nb xb) (hB : B ≤ w.heap.size) (hne : vb.ownBlock ≠ some g)
 (hk : key.size ≤ 1000) (hv : val.size ≤ 1000)
 (hr0 : ∃ k, PX.smhttp_index.f k (strOfNums (zs.take n)) (strOfNums (123 :: (bytesOf key ++ [125]))) = some (-1)) (hr : ∃ k, PX.smhttp_index.f k (strOfNums (zs.take n)) (strOfNums (123 :: (bytesOf key ++ [43, 125]))) = some (r : Int)) (hrn : r + (key.size + 3) ≤ n)
 (out : List Int) (hout : out = (zs.take n).take r ++ bytesOf val' ++ (zs.take n).drop (r + (key.size + 3))) :
 Calls Tryz.prog 164 #[.slice (some ⟨g, 0, none⟩) n zs.length, vb, .string key, .string val, .bool true] w (RP B w g vb out) := by
 have hgw := hp.lt
 replace hval' := Aside0.mk hval'
 replace hout := Aside0.mk hout
 have hp' := Aside0.mk hp; clear hp
 have hne' := Aside0.mk hne; clear hne
 go_enter Tryz.func164, Tryz.ntmps164
 go_wp2_with fail
 refine (bufCap_call B vb nb xb (key.size + 2) w ho hB (by omega) (by omega)).mono ?_
 rintro e w1 ⟨v1, rfl, ho1, hb1, hat1⟩
 have HF : FB B w vb w1 v1 [] := ⟨ho1, hat1, Fr.of_below hb1⟩
 replace HF := Aside0.mk HF; clear ho1 hb1 hat1 ho
 go_wp2_with (first | ((with_reducible refine gate_builtin (b := .append) (xs := #[.tmp 25, .tmp 26]) rfl ?_); at_builtin; refine print_append_num (w0 := w1) B rfl (.tmp 25) (.tmp 26) 104 5 .u8 1 rfl Tryz.underlying104 inf5 (by omega) v1 [] 123 rfl rfl HF.out.own (Below.refl _ _) (HF.out.base hB) (by simp [bytesOf_length]; try omega) ?_; intro v2 w2 ho2 hb2 hg2 hat2; replace HF := Aside0.mk (HF.out.next ho2 hg2 hat2); clear ho2 hb2 hg2 hat2) | ((with_reducible refine gate_builtin (b := .append) (xs := #[.tmp 28, .tmp 29]) rfl ?_); at_builtin; refine append_strF (w0 := w2) B rfl (.tmp 28) (.tmp 29) 104 9 5 rfl Tryz.underlying104 Tryz.underlying9 inf5 v2 ([] ++ [123]) key rfl rfl HF.out.own (Below.refl _ _) (HF.out.base hB) (by simp [bytesOf_length]; try omega) ?_; intro v3 w3 ho3 hg3 hat3; replace HF := Aside0.mk (HF.out.next ho3 hg3 hat3); clear ho3 hg3 hat3) | ((with_reducible refine gate_builtin (b := .append) (xs := #[.tmp 31, .tmp 32]) rfl ?_); at_builtin; refine print_append_num (w0 := w3) B rfl (.tmp 31) (.tmp 32) 104 5 .u8 1 rfl Tryz.underlying104 inf5 (by omega) v3 ([] ++ [123] ++ bytesOf key) 125 rfl rfl HF.out.own (Below.refl _ _) (HF.out.base hB) (by simp [bytesOf_length]; try omega) ?_; intro v4 w4 ho4 hb4 hg4 hat4; replace HF := Aside0.mk (HF.out.next ho4 hg4 hat4); have ho4' := ho4; generalize hL4 : ([] ++ [123] ++ bytesOf key ++ [125]).length = L4 at ho4'; have hL4a : L4 = key.size + 2 := (by rw [← hL4]; simp [bytesOf_length]; try omega); clear hL4; have hs1 := own_string (P := Tryz.prog) Tryz.underlying104 Tryz.underlying5 Tryz.underlying9 ho4'; have hp4 := hp'.out.fr HF.out.fr hne'.out; have hs2 := hp4.str (n := n) (c := zs.length) hn Tryz.underlying104 Tryz.underlying5 Tryz.underlying9; obtain ⟨A4, c4, rfl⟩ := own_slice ho4'; replace hL4a := Aside0.mk hL4a; clear ho4 ho4' hb4 hg4 hat4 hp4)
  )
 obtain ⟨k0, hr0⟩ := hr0
 refine (PX.smhttp_index.calls k0 _ _ (-1) _ hr0).mono ?_
 clear hr0
 rintro e w5a ⟨rfl, hd⟩
 replace HF := Aside0.mk (HF.out.below hd.below); clear hd hs1 hs2 hL4a
 go_wp2_with fail
 refine (bufCap_call B (.slice A4 L4 c4) _ _ (key.size + 3) w5a HF.out.own (HF.out.base hB) (by omega) (by omega)).mono ?_
 rintro e w6a ⟨v6a, rfl, ho6, hb6, hat6⟩
 replace HF := Aside0.mk (HF.out.next (ys := []) ho6 (grown_of_below hb6 _) hat6); clear ho6 hb6 hat6
 go_wp2_with (first | ((with_reducible refine gate_builtin (b := .append) (xs := #[.tmp 46, .tmp 47]) rfl ?_); at_builtin; refine print_append_num (w0 := w6a) B rfl (.tmp 46) (.tmp 47) 104 5 .u8 1 rfl Tryz.underlying104 inf5 (by omega) v6a [] 123 rfl rfl HF.out.own (Below.refl _ _) (HF.out.base hB) (by simp [bytesOf_length]; try omega) ?_; intro v2b w2b ho2b hb2b hg2b hat2b; replace HF := Aside0.mk (HF.out.next ho2b hg2b hat2b); clear ho2b hb2b hg2b hat2b) | ((with_reducible refine gate_builtin (b := .append) (xs := #[.tmp 49, .tmp 50]) rfl ?_); at_builtin; refine append_strF (w0 := w2b) B rfl (.tmp 49) (.tmp 50) 104 9 5 rfl Tryz.underlying104 Tryz.underlying9 inf5 v2b ([] ++ [123]) key rfl rfl HF.out.own (Below.refl _ _) (HF.out.base hB) (by simp [bytesOf_length]; try omega) ?_; intro v3b w3b ho3b hg3b hat3b; replace HF := Aside0.mk (HF.out.next ho3b hg3b hat3b); clear ho3b hg3b hat3b) | ((with_reducible refine gate_builtin (b := .append) (xs := #[.tmp 52, .tmp 53]) rfl ?_); at_builtin; refine print_append_num (w0 := w3b) B rfl (.tmp 52) (.tmp 53) 104 5 .u8 1 rfl Tryz.underlying104 inf5 (by omega) v3b ([] ++ [123] ++ bytesOf key) 43 rfl rfl HF.out.own (Below.refl _ _) (HF.out.base hB) (by simp [bytesOf_length]; try omega) ?_; intro v3c w3c ho3c hb3c hg3c hat3c; replace HF := Aside0.mk (HF.out.next ho3c hg3c hat3c); clear ho3c hb3c hg3c hat3c) | ((with_reducible refine gate_builtin (b := .append) (xs := #[.tmp 55, .tmp 56]) rfl ?_); at_builtin; refine print_append_num (w0 := w3c) B rfl (.tmp 55) (.tmp 56) 104 5 .u8 1 rfl Tryz.underlying104 inf5 (by omega) v3c ([] ++ [123] ++ bytesOf key ++ [43]) 125 rfl rfl HF.out.own (Below.refl _ _) (HF.out.base hB) (by simp [bytesOf_length]; try omega) ?_; intro v4b w4b ho4b hb4b hg4b hat4b; replace HF := Aside0.mk (HF.out.next ho4b hg4b hat4b); have ho4' := ho4b; generalize hL4 : ([] ++ [123] ++ bytesOf key ++ [43] ++ [125]).length = L4b at ho4'; have hL4a : L4b = key.size + 3 := (by rw [← hL4]; simp [bytesOf_length]; try omega); clear hL4; have hs1 := own_string (P := Tryz.prog) Tryz.underlying104 Tryz.underlying5 Tryz.underlying9 ho4'; have hp4 := hp'.out.fr HF.out.fr hne'.out; have hs2 := hp4.str (n := n) (c := zs.length) hn Tryz.underlying104 Tryz.underlying5 Tryz.underlying9; obtain ⟨A4b, c4b, rfl⟩ := own_slice ho4'; replace hL4a := Aside0.mk hL4a; clear ho4b ho4' hb4b hg4b hat4b hp4))
 obtain ⟨kk, hr⟩ := hr
 refine (PX.smhttp_index.calls kk _ _ (r : Int) _ hr).mono ?_
 clear hr
 rintro e w5 ⟨rfl, hd⟩
 replace HF := Aside0.mk (HF.out.below hd.below); clear hd hs1 hs2
 have hL4bb : L4b ≤ key.size + 3 := by rw [hL4a.out]; omega
 have hL4bc : key.size + 3 ≤ L4b := by rw [hL4a.out]; omega
 clear hL4a
 go_wp2_with fail
 have hE : Calls Tryz.prog 57 #[.string val, .bool false] w5 fun e w' => e = .returned (.string val') ∧ Below w5.heap.size w5 w' := by
  rw [hval'.out]; exact escPath val false w5 (by omega)
 refine hE.mono ?_
 rintro e w5b ⟨rfl, hbE⟩
 replace HF := Aside0.mk (HF.out.below hbE); clear hbE hE
 go_wp2_with fail
 refine (bufCap_call B (.slice A4b L4b c4b) _ _ val'.size w5b HF.out.own (HF.out.base hB) (by omega) (by omega)).mono ?_
 rintro e w6 ⟨v6, rfl, ho6, hb6, hat6⟩
 replace HF := Aside0.mk (HF.out.next (ys := []) ho6 (grown_of_below hb6 _) hat6); clear ho6 hb6 hat6
 go_wp2_with (first | ((with_reducible refine gate_builtin (b := .copy) (xs := #[.tmp 118, .tmp 119]) rfl ?_); have hcm : zs.length ≤ m := (by have := hm.out; omega); refine copyB rfl (.tmp 118) (.tmp 119) 104 104 rfl 5 Tryz.underlying104 (by kernel_rfl) (some ⟨w7.heap.size, 0, none⟩) (some ⟨g, 0, none⟩) m m zs.length zs.length rfl rfl w7.heap.size 0 (List.replicate m 0) (BAt.make w7 m) zs ?hn ?hpos ?hfit ?_; (case hn => show _ = min zs.length m; omega); (case hpos => intro hp; exact ⟨rfl, _, rfl, fun j hj => by rw [add_plain]; exact ((hp'.out.fr HF.out.fr hne'.out).below (below_alloc (Below.refl _ _) _)).cell j hj⟩); (case hfit => intro hp; simp; omega); intro w8 hb8 hf8 hz8) | ((with_reducible refine gate_builtin (b := .copy) (xs := #[.tmp 93, .tmp 94]) rfl ?_); have hq : L4b = L7 := (by have h0 : ((L4b : Int) == (L7 : Int)) = true := (by assumption); have h1 := beq_iff_eq.1 h0; omega); have hsr := HF.out.src; have hbl := bytesOf_length val'; refine copyB rfl (.tmp 93) (.tmp 94) 104 104 rfl 5 Tryz.underlying104 (by kernel_rfl) (some ⟨g, r, none⟩) A7 (n - r) (zs.length - r) L7 c7 ?hd ?hs g r zs (hp'.out.fr HF.out.fr hne'.out) (bytesOf val') ?hn ?hpos ?hfit ?_; (case hd => first | rfl | (go_simp; done) | (go_simp; rfl)); (case hs => rfl); (case hn => show _ = min L7 (n - r); omega); (case hpos => intro hp; obtain ⟨ad, ha, hc⟩ := hsr.2 (by omega); exact ⟨rfl, ad, ha, fun j hj => hc j (by omega)⟩); (case hfit => intro hp; omega); intro w8 hb8 hf8 hz8; replace hq := Aside0.mk hq; clear hsr) | ((with_reducible refine gate_builtin (b := .append) (xs := #[.tmp 80, .tmp 81]) rfl ?_); at_builtin; refine append_strF (w0 := w6) B rfl (.tmp 80) (.tmp 81) 104 9 5 rfl Tryz.underlying104 Tryz.underlying9 inf5 v6 [] val' rfl rfl HF.out.own (Below.refl _ _) (HF.out.base hB) (by simp [bytesOf_length]; try omega) ?_; intro v7 w7 ho7 hg7 hat7; replace HF := Aside0.mk (HF.out.next ho7 hg7 hat7); have ho7' := ho7; generalize hL7 : ([] ++ bytesOf val').length = L7 at ho7'; have hL7a : L7 = val'.size := (by rw [← hL7]; simp [bytesOf_length]); clear hL7; have hL7b : L7 ≤ val'.size := (by omega); have hL7c : val'.size ≤ L7 := (by omega); clear hL7a; obtain ⟨A7, c7, rfl⟩ := own_slice ho7'; have e1 : (r : Int) + (L4b : Int) - (r : Int) = (L4b : Int) := (by omega); obtain ⟨m, hm⟩ : ∃ m : Nat, (n : Int) + ((L7 : Int) - (L4b : Int)) = (m : Int) := ⟨n + L7 - L4b, by omega⟩; have hmk := print_make (P := Tryz.prog) 104 5 .u8 1 Tryz.underlying104 inf5 (by omega) m (by omega); simp only [← hm] at hmk; replace hm := Aside0.mk hm; clear ho7 ho7' hg7 hat7))
 ·go_ret3
  have hvn := HF.out.ne hne'.out hgw
  have hlen : out.length = n := by
   have h1 := hq.out
   rw [hout.out]; simp; omega
  have hsp := spl_same zs (bytesOf val') n r (key.size + 3) hrn hn (by have h1 := hq.out; omega)
  refine ⟨g, spl zs r (bytesOf val'), _, _, _, ?_, hb8, ?_, ?_, ?_, .inl rfl, hf8.own HF.out.own (fun k hk he => hvn (by rw [hk, he])), HF.out.at_, hvn, ?_⟩
  ·rw [hlen, spl_length _ _ _ (by have h1 := hq.out; omega)]; rfl
  ·rw [hlen, spl_length _ _ _ (by have h1 := hq.out; omega)]; exact hn
  ·rw [spl_length _ _ _ (by have h1 := hq.out; omega)]; exact hzl
  ·rw [hlen, hout.out]; exact hsp
  ·exact (HF.out.fr.mono (fun _ _ h => .inr h)).trans hf8 (fun _ _ h => .inl h)
 ·have hgl : w.heap.size ≤ w7.heap.size := HF.out.fr.size
  have hl7 := own_lt HF.out.own
  have HNE : Aside0 ((Value.slice A7 L7 c7).ownBlock ≠ some w7.heap.size) := ⟨fun e => by have := hl7 _ e; omega⟩
  clear hl7
  have HF8 := (HF.out.below (below_alloc (Below.refl _ _) (.cells (madeCells #[.int .u8 0] m) 5))).far hf8 hgl HNE.out
  replace HF := Aside0.mk HF8; clear HF8 hf8 hz8 hmk
  have htk : (spl (List.replicate m (0 : Int)) 0 zs).take n = zs.take n := by
   have e : spl (List.replicate m (0 : Int)) 0 zs = zs ++ (List.replicate m (0 : Int)).drop zs.length := by simp [spl]
   rw [e, List.take_append_of_le_length hn]
  have hzl1 : (spl (List.replicate m (0 : Int)) 0 zs).length = m := by rw [spl_length _ _ _ (by simp; omega)]; simp
  have HB8 := Aside0.mk hb8; clear hb8
  generalize spl (List.replicate m (0 : Int)) 0 zs = zs1 at *
  have hzl1a : zs1.length ≤ m := by omega
  have hzl1b : m ≤ zs1.length := by omega
  clear hzl1
  obtain ⟨g1, hg1⟩ : ∃ g1, g1 = w7.heap.size := ⟨_, rfl⟩
  rw [← hg1] at HB8 HNE ⊢
  replace hg1 : w.heap.size ≤ g1 := by omega
  clear hgl
  go_wp2_with fail
  have hL : (bytesOf val').length = L7 := by rw [bytesOf_length]; omega
  have hmq := hm.out
  have hmn : m = n + L7 - L4b := by omega
  have q1 : IntKind.i64.wrap ((r : Int) + (L7 : Int)) = (r : Int) + L7 := IntWalk.i64_in _ (by omega)
  have q2 : (0 : Int) ≤ (r : Int) + L7 := by omega
  have q2b : (r : Int) + L7 ≤ (m : Int) := by omega
  have q3 : (0 : Int) ≤ (r : Int) + L4b := by omega
  have q3b : (r : Int) + L4b ≤ (m : Int) := by omega
  have q4 : ((r : Int) + L7).toNat = r + L7 := by omega
  have q5 : ((r : Int) + L4b).toNat = r + L4b := by omega
  have hne1 := HNE.out
  have hmn1 : m ≤ m := by omega
  have hlen : out.length = m := by rw [hout.out]; simp; omega
  have hl4 : key.size + 3 = L4b := by omega
  have hspm := spl_move zs1 (bytesOf val') n m r L4b L7 (by omega) (by omega) (by omega) (by omega) hL
  rw [← hmn, htk] at hspm
  have hmv : ((zs1.drop (r + L4b)).take (min (m - (r + L4b)) (m - (r + L7)))).length = min (m - (r + L4b)) (m - (r + L7)) := by simp; try omega
  have hz2 : (spl zs1 (r + L7) ((zs1.drop (r + L4b)).take (min (m - (r + L4b)) (m - (r + L7))))).length = zs1.length := spl_length _ _ _ (by rw [hmv]; omega)
  have HSPM := Aside0.mk hspm; clear hspm
  have HMV := Aside0.mk hmv; clear hmv
  have HZ2 := Aside0.mk hz2; clear hz2
  have HL4b := Aside0.mk hl4; clear hl4
  have HMN := Aside0.mk hmn; clear hmn
  have HLEN := Aside0.mk hlen; clear hlen hmq hm
  refine wp_region_still_tail 8 (by kernel_rfl) (by kernel_rfl) ?_
  simp only [List.take_succ_cons, List.take_zero, List.drop_succ_cons, List.drop_zero]
  repeat still_step
  refine wpStill_nil ?_
  change wpList _ _ _ _ _ w8.drew
  have hA := Aside0.mk (HB8.out.below (Below.refl _ _).drew)
  replace HF := Aside0.mk (HF.out.below (Below.refl _ _).drew)
  skip
  generalize w8.drew = w10 at *
  clear q1 q2 q2b q3 q3b q4 q5
  refine copyB rfl (.tmp 126) (.tmp 129) 104 104 rfl 5 Tryz.underlying104 (by kernel_rfl) _ _ _ _ _ _ rfl rfl g1 (r + L7) zs1 hA.out ((zs1.drop (r + L4b)).take (min (m - (r + L4b)) (m - (r + L7)))) ?hn ?hpos ?hfit ?_
  case hn => exact HMV.out
  case hpos => intro hp; rw [HMV.out] at hp; have := HMN.out; exact ⟨if_neg (by omega), ⟨g1, r + L4b, none⟩, if_neg (by omega), fun j hj => cut_cell hA.out _ _ _ (by omega) hj⟩
  case hfit => intro hp; rw [HMV.out]; have := HMN.out; omega
  intro w11 hb11 hf11 hz11
  have ho11 := hf11.own HF.out.own (fun k hk he => hne1 (by rw [hk, he]))
  replace HB11 := Aside0.mk hb11; replace HF11 := Aside0.mk hf11; replace HO11 := Aside0.mk ho11; clear hb11 hf11 ho11 hz11
  have e2 : (n : Int) + ((L7 : Int) - (L4b : Int)) = (m : Int) := by have := HMN.out; omega
  go_wp2_with ((with_reducible refine gate_builtin (b := .copy) (xs := #[.tmp 136, .tmp 137]) rfl ?_); have hsr := own_src HO11.out; (have hcl : r + L7 ≤ m := (by have := HMN.out; omega)); refine copyB rfl (.tmp 136) (.tmp 137) 104 104 rfl 5 Tryz.underlying104 (by kernel_rfl) (some ⟨g1, r, none⟩) A7 (m - r) (m - r) L7 c7 ?hd ?hs g1 r _ HB11.out (bytesOf val') ?hn ?hpos ?hfit ?_; (case hd => first | rfl | (go_simp; done) | (go_simp; rfl)); (case hs => rfl); (case hn => show _ = min L7 (m - r); omega); (case hpos => intro hp; obtain ⟨ad, ha, hc⟩ := hsr.2 (by omega); exact ⟨rfl, ad, ha, fun j hj => hc j (by omega)⟩); (case hfit => intro hp; rw [HZ2.out]; omega); intro w13 hb13 hf13 hz13; replace HB13 := Aside0.mk hb13; replace HF13 := Aside0.mk hf13; clear hb13 hf13 hz13 hsr)
  all_goals
   go_ret3
   have hz3 := spl_length (spl zs1 (r + L7) ((zs1.drop (r + L4b)).take (min (m - (r + L4b)) (m - (r + L7))))) r (bytesOf val') (by rw [HZ2.out]; have := HMN.out; omega)
   rw [HZ2.out] at hz3
   refine ⟨g1, _, _, _, _, ?_, HB13.out, ?_, ?_, ?_, ?_, HF13.out.own HO11.out (fun k hk he => hne1 (by rw [hk, he])), HF.out.at_, hne1, ?_⟩
   ·rw [HLEN.out, hz3]; first | (rw [show zs1.length = m from by omega]; rfl) | (rw [show zs1.length = m from by omega, show m = r + L7 from by assumption]; rfl) 
   ·rw [HLEN.out, hz3]; omega
   ·rw [hz3]; omega
   ·rw [HLEN.out, HSPM.out, ← HL4b.out, hout.out]
   ·exact .inr hg1
   ·exact ((HF.out.fr.mono (fun _ _ h => .inr h)).trans HF11.out (fun k hk h => by omega)).trans HF13.out (fun k hk h => by omega)
 ·have hL : (bytesOf val').length = L7 := by rw [bytesOf_length]; omega
  have hmq := hm.out
  have hmn : m = n + L7 - L4b := by omega
  have q1 : IntKind.i64.wrap ((r : Int) + (L7 : Int)) = (r : Int) + L7 := IntWalk.i64_in _ (by omega)
  have q2 : (0 : Int) ≤ (r : Int) + L7 := by omega
  have q2b : (r : Int) + L7 ≤ (zs.length : Int) := by omega
  have q3 : (0 : Int) ≤ (r : Int) + L4b := by omega
  have q3b : (r : Int) + L4b ≤ (zs.length : Int) := by omega
  have q4 : ((r : Int) + L7).toNat = r + L7 := by omega
  have q5 : ((r : Int) + L4b).toNat = r + L4b := by omega
  have hne1 := HF.out.ne hne'.out hgw
  have hmn1 : m ≤ zs.length := by omega
  have hlen : out.length = m := by rw [hout.out]; simp; omega
  have hl4 : key.size + 3 = L4b := by omega
  have hspm := spl_move zs (bytesOf val') n zs.length r L4b L7 (by omega) (by omega) (by omega) (by omega) hL
  rw [← hmn] at hspm
  have hmv : ((zs.drop (r + L4b)).take (min (zs.length - (r + L4b)) (zs.length - (r + L7)))).length = min (zs.length - (r + L4b)) (zs.length - (r + L7)) := by simp; try omega
  have hz2 : (spl zs (r + L7) ((zs.drop (r + L4b)).take (min (zs.length - (r + L4b)) (zs.length - (r + L7))))).length = zs.length := spl_length _ _ _ (by rw [hmv]; omega)
  have HSPM := Aside0.mk hspm; clear hspm
  have HMV := Aside0.mk hmv; clear hmv
  have HZ2 := Aside0.mk hz2; clear hz2
  have HL4b := Aside0.mk hl4; clear hl4
  have HMN := Aside0.mk hmn; clear hmn
  have HLEN := Aside0.mk hlen; clear hlen hmq hm
  refine wp_region_still_tail 8 (by kernel_rfl) (by kernel_rfl) ?_
  simp only [List.take_succ_cons, List.take_zero, List.drop_succ_cons, List.drop_zero]
  repeat still_step
  refine wpStill_nil ?_
  change wpList _ _ _ _ _ w7.drew
  have hA := Aside0.mk ((hp'.out.fr HF.out.fr hne'.out).below (Below.refl _ _).drew)
  replace HF := Aside0.mk (HF.out.below (Below.refl _ _).drew)
  skip
  generalize w7.drew = w10 at *
  clear q1 q2 q2b q3 q3b q4 q5
  refine copyB rfl (.tmp 126) (.tmp 129) 104 104 rfl 5 Tryz.underlying104 (by kernel_rfl) _ _ _ _ _ _ rfl rfl g (r + L7) zs hA.out ((zs.drop (r + L4b)).take (min (zs.length - (r + L4b)) (zs.length - (r + L7)))) ?hn ?hpos ?hfit ?_
  case hn => exact HMV.out
  case hpos => intro hp; rw [HMV.out] at hp; have := HMN.out; exact ⟨if_neg (by omega), ⟨g, r + L4b, none⟩, if_neg (by omega), fun j hj => cut_cell hA.out _ _ _ (by omega) hj⟩
  case hfit => intro hp; rw [HMV.out]; have := HMN.out; omega
  intro w11 hb11 hf11 hz11
  have ho11 := hf11.own HF.out.own (fun k hk he => hne1 (by rw [hk, he]))
  replace HB11 := Aside0.mk hb11; replace HF11 := Aside0.mk hf11; replace HO11 := Aside0.mk ho11; clear hb11 hf11 ho11 hz11
  have e2 : (n : Int) + ((L7 : Int) - (L4b : Int)) = (m : Int) := by have := HMN.out; omega
  go_wp2_with ((with_reducible refine gate_builtin (b := .copy) (xs := #[.tmp 136, .tmp 137]) rfl ?_); have hsr := own_src HO11.out; (have hcl : r + L7 ≤ m := (by have := HMN.out; omega)); refine copyB rfl (.tmp 136) (.tmp 137) 104 104 rfl 5 Tryz.underlying104 (by kernel_rfl) (some ⟨g, r, none⟩) A7 (m - r) (zs.length - r) L7 c7 ?hd ?hs g r _ HB11.out (bytesOf val') ?hn ?hpos ?hfit ?_; (case hd => first | rfl | (go_simp; done) | (go_simp; rfl)); (case hs => rfl); (case hn => show _ = min L7 (m - r); omega); (case hpos => intro hp; obtain ⟨ad, ha, hc⟩ := hsr.2 (by omega); exact ⟨rfl, ad, ha, fun j hj => hc j (by omega)⟩); (case hfit => intro hp; rw [HZ2.out]; omega); intro w13 hb13 hf13 hz13; replace HB13 := Aside0.mk hb13; replace HF13 := Aside0.mk hf13; clear hb13 hf13 hz13 hsr)
  all_goals
   go_ret3
   have hz3 := spl_length (spl zs (r + L7) ((zs.drop (r + L4b)).take (min (zs.length - (r + L4b)) (zs.length - (r + L7))))) r (bytesOf val') (by rw [HZ2.out]; have := HMN.out; omega)
   rw [HZ2.out] at hz3
   refine ⟨g, _, _, _, _, ?_, HB13.out, ?_, ?_, ?_, ?_, HF13.out.own HO11.out (fun k hk he => hne1 (by rw [hk, he])), HF.out.at_, hne1, ?_⟩
   ·rw [HLEN.out, hz3]; first | rfl | (simp only [*]; rfl)
   ·rw [HLEN.out, hz3]; omega
   ·rw [hz3]; omega
   ·rw [HLEN.out, HSPM.out, ← HL4b.out, hout.out]
   ·exact .inl rfl
   ·exact ((HF.out.fr.mono (fun _ _ h => .inr h)).trans HF11.out (fun _ _ h => .inl h)).trans HF13.out (fun _ _ h => .inl h)
 ·have hL : (bytesOf val').length = L7 := by rw [bytesOf_length]; omega
  have hmq := hm.out
  have hmn : m = n + L7 - L4b := by omega
  have q1 : IntKind.i64.wrap ((r : Int) + (L7 : Int)) = (r : Int) + L7 := IntWalk.i64_in _ (by omega)
  have q2 : (0 : Int) ≤ (r : Int) + L7 := by omega
  have q2b : (r : Int) + L7 ≤ (n : Int) := by omega
  have q3 : (0 : Int) ≤ (r : Int) + L4b := by omega
  have q3b : (r : Int) + L4b ≤ (n : Int) := by omega
  have q4 : ((r : Int) + L7).toNat = r + L7 := by omega
  have q5 : ((r : Int) + L4b).toNat = r + L4b := by omega
  have hne1 := HF.out.ne hne'.out hgw
  have hmn1 : m ≤ n := by omega
  have hlen : out.length = m := by rw [hout.out]; simp; omega
  have hl4 : key.size + 3 = L4b := by omega
  have hspm := spl_move zs (bytesOf val') n n r L4b L7 (by omega) (by omega) (by omega) (by omega) hL
  rw [← hmn] at hspm
  have hmv : ((zs.drop (r + L4b)).take (min (n - (r + L4b)) (n - (r + L7)))).length = min (n - (r + L4b)) (n - (r + L7)) := by simp; try omega
  have hz2 : (spl zs (r + L7) ((zs.drop (r + L4b)).take (min (n - (r + L4b)) (n - (r + L7))))).length = zs.length := spl_length _ _ _ (by rw [hmv]; omega)
  have HSPM := Aside0.mk hspm; clear hspm
  have HMV := Aside0.mk hmv; clear hmv
  have HZ2 := Aside0.mk hz2; clear hz2
  have HL4b := Aside0.mk hl4; clear hl4
  have HMN := Aside0.mk hmn; clear hmn
  have HLEN := Aside0.mk hlen; clear hlen hmq hm
  refine wp_region_still_tail 8 (by kernel_rfl) (by kernel_rfl) ?_
  simp only [List.take_succ_cons, List.take_zero, List.drop_succ_cons, List.drop_zero]
  repeat still_step
  refine wpStill_nil ?_
  change wpList _ _ _ _ _ w7.drew
  have hA := Aside0.mk ((hp'.out.fr HF.out.fr hne'.out).below (Below.refl _ _).drew)
  replace HF := Aside0.mk (HF.out.below (Below.refl _ _).drew)
  skip
  generalize w7.drew = w10 at *
  clear q1 q2 q2b q3 q3b q4 q5
  refine copyB rfl (.tmp 126) (.tmp 129) 104 104 rfl 5 Tryz.underlying104 (by kernel_rfl) _ _ _ _ _ _ rfl rfl g (r + L7) zs hA.out ((zs.drop (r + L4b)).take (min (n - (r + L4b)) (n - (r + L7)))) ?hn ?hpos ?hfit ?_
  case hn => exact HMV.out
  case hpos => intro hp; rw [HMV.out] at hp; have := HMN.out; exact ⟨if_neg (by omega), ⟨g, r + L4b, none⟩, if_neg (by omega), fun j hj => cut_cell hA.out _ _ _ (by omega) hj⟩
  case hfit => intro hp; rw [HMV.out]; have := HMN.out; omega
  intro w11 hb11 hf11 hz11
  have ho11 := hf11.own HF.out.own (fun k hk he => hne1 (by rw [hk, he]))
  replace HB11 := Aside0.mk hb11; replace HF11 := Aside0.mk hf11; replace HO11 := Aside0.mk ho11; clear hb11 hf11 ho11 hz11
  have e2 : (n : Int) + ((L7 : Int) - (L4b : Int)) = (m : Int) := by have := HMN.out; omega
  go_wp2_with ((with_reducible refine gate_builtin (b := .copy) (xs := #[.tmp 136, .tmp 137]) rfl ?_); have hsr := own_src HO11.out; (have hcl : r + L7 ≤ m := (by have := HMN.out; omega)); refine copyB rfl (.tmp 136) (.tmp 137) 104 104 rfl 5 Tryz.underlying104 (by kernel_rfl) (some ⟨g, r, none⟩) A7 (m - r) (zs.length - r) L7 c7 ?hd ?hs g r _ HB11.out (bytesOf val') ?hn ?hpos ?hfit ?_; (case hd => first | rfl | (go_simp; done) | (go_simp; rfl)); (case hs => rfl); (case hn => show _ = min L7 (m - r); omega); (case hpos => intro hp; obtain ⟨ad, ha, hc⟩ := hsr.2 (by omega); exact ⟨rfl, ad, ha, fun j hj => hc j (by omega)⟩); (case hfit => intro hp; rw [HZ2.out]; omega); intro w13 hb13 hf13 hz13; replace HB13 := Aside0.mk hb13; replace HF13 := Aside0.mk hf13; clear hb13 hf13 hz13 hsr)
  all_goals
   go_ret3
   have hz3 := spl_length (spl zs (r + L7) ((zs.drop (r + L4b)).take (min (n - (r + L4b)) (n - (r + L7))))) r (bytesOf val') (by rw [HZ2.out]; have := HMN.out; omega)
   rw [HZ2.out] at hz3
   refine ⟨g, _, _, _, _, ?_, HB13.out, ?_, ?_, ?_, ?_, HF13.out.own HO11.out (fun k hk he => hne1 (by rw [hk, he])), HF.out.at_, hne1, ?_⟩
   ·rw [HLEN.out, hz3]; first | rfl | (simp only [*]; rfl)
   ·rw [HLEN.out, hz3]; omega
   ·rw [hz3]; omega
   ·rw [HLEN.out, HSPM.out, ← HL4b.out, hout.out]
   ·exact .inl rfl
   ·exact ((HF.out.fr.mono (fun _ _ h => .inr h)).trans HF11.out (fun _ _ h => .inl h)).trans HF13.out (fun _ _ h => .inl h)
end H
end Go.Proofs.YtclmjmfcggkpaaaGreatDoor
namespace Go.Proofs.YtclmjmfcggkpaaaGreatDoor
open Go.RowKit Go.Proofs.YtclmjmfcggkpaaaGreatDoorW.PrintWords Go.Proofs.YtclmjmfcggkpaaaGreatDoorW.PrintLast Go.Proofs.YtclmjmfcggkpaaaGreatDoorW.PrintMore
namespace H
/-- Where the label stands: at r; greedy or not. -/
def Idx (p : List Int) (key : ByteArray) (gr : Bool) (r : Nat) : Prop :=
 match gr with
 | false => (∃ k, PX.smhttp_index.f k (strOfNums p) (strOfNums (123 :: (bytesOf key ++ [125]))) = some (r : Int)) ∧ r + (key.size + 2) ≤ p.length
 | true => (∃ k, PX.smhttp_index.f k (strOfNums p) (strOfNums (123 :: (bytesOf key ++ [125]))) = some (-1)) ∧ (∃ k, PX.smhttp_index.f k (strOfNums p) (strOfNums (123 :: (bytesOf key ++ [43, 125]))) = some (r : Int)) ∧ r + (key.size + 3) ≤ p.length
/-- The label's place is given to bs. -/
def rep (p : List Int) (key : ByteArray) (gr : Bool) (r : Nat) (bs : List Int) : List Int := p.take r ++ bs ++ p.drop (r + (key.size + (if gr then 3 else 2)))
def vesc (gr esc : Bool) (val : ByteArray) : List Int := if esc then escB gr (bytesOf val) else bytesOf val
theorem escB_ok (gr : Bool) (val : ByteArray) : bytesOf (strOfNums (escB gr (bytesOf val))) = escB gr (bytesOf val) :=
 bytesOf_strOf _ (fun x hx => (esc_ok _ (fun c hc => bytesOf_range val c hc) gr x hx).2)
theorem rpe (gr esc : Bool) (B g n : Nat) (zs : List Int) (vb : Value) (nb : Nat) (xb : List Value) (key val : ByteArray) (r : Nat) (w : World)
 (hp : BAt w g zs) (hn : n ≤ zs.length) (hzl : zs.length ≤ 9223372036854775807) (hn2 : n ≤ 1099511627776) (ho : w.ownsRow B 5 1 vb nb xb) (hB : B ≤ w.heap.size) (hne : vb.ownBlock ≠ some g)
 (hk : key.size ≤ 1000) (hv : val.size ≤ 1000) (hi : Idx (zs.take n) key gr r) (out : List Int) (hout : out = rep (zs.take n) key gr r (vesc gr esc val)) :
 Calls Tryz.prog 164 #[.slice (some ⟨g, 0, none⟩) n zs.length, vb, .string key, .string val, .bool esc] w (RP B w g vb out) := by
 have hl : (zs.take n).length = n := by simp; omega
 have h4 : ∀ gr, (strOfNums (escB gr (bytesOf val))).size ≤ 4000 := fun gr => by
  have h1 := bytesOf_length (strOfNums (escB gr (bytesOf val)))
  rw [escB_ok] at h1
  have h2 := escB_len gr (bytesOf val)
  rw [bytesOf_length] at h2
  omega
 cases gr <;> cases esc
 ·obtain ⟨hi, hr⟩ := hi
  exact rpe_ff B g n zs vb nb xb key val r w hp hn hzl hn2 ho hB hne hk hv hi (by omega) out hout
 ·obtain ⟨hi, hr⟩ := hi
  exact rpe_ft B g n zs vb nb xb key val r w _ rfl (h4 _) hp hn hzl hn2 ho hB hne hk hv hi (by omega) out (by rw [escB_ok]; exact hout)
 ·obtain ⟨hi, hi2, hr⟩ := hi
  exact rpe_tf B g n zs vb nb xb key val r w hp hn hzl hn2 ho hB hne hk hv hi hi2 (by omega) out hout
 ·obtain ⟨hi, hi2, hr⟩ := hi
  exact rpe_tt B g n zs vb nb xb key val r w _ rfl (h4 _) hp hn hzl hn2 ho hB hne hk hv hi hi2 (by omega) out (by rw [escB_ok]; exact hout)
end H
end Go.Proofs.YtclmjmfcggkpaaaGreatDoor
namespace Go.Proofs.YtclmjmfcggkpaaaGreatDoor
open Go.RowKit Go.Proofs.YtclmjmfcggkpaaaGreatDoorW.PrintWords Go.Proofs.YtclmjmfcggkpaaaGreatDoorW.PrintLast Go.Proofs.YtclmjmfcggkpaaaGreatDoorW.PrintMore
namespace H
/-- What lies in the reach of an encoder eb: itself, blocks of bytes from B on. -/
def Er (B eb : Nat) (w : World) (k : Nat) : Prop := k = eb ∨ (B ≤ k ∧ ∃ cs fr, w.heap[k]? = some (.cells cs 5 fr))
theorem Er.trans {B eb : Nat} {w w1 w2 : World} (h : Fr (Er B eb w) w w1) (k : Fr (Er B eb w1) w1 w2) : Fr (Er B eb w) w w2 := by
 refine h.trans k (fun i hi hs => ?_)
 rcases hs with hs | ⟨hb, cs, fr, hc⟩
 ·exact .inl hs
 ·by_cases he : Er B eb w i
  ·exact he
  ·have := h.block i hi he
   exact .inr ⟨hb, cs, fr, by rw [← this]; exact hc⟩
/-- A row of bytes from B on, of which the first ones are p. -/
def Row (B : Nat) (w : World) (v : Value) (g : Nat) (p : List Int) : Prop :=
 ∃ zs : List Int, v = .slice (some ⟨g, 0, none⟩) p.length zs.length ∧ BAt w g zs ∧ p.length ≤ zs.length ∧ zs.length ≤ 9223372036854775807 ∧ zs.take p.length = p ∧ B ≤ g
/-- The encoder eb: its path p, its raw path r. -/
def EncS (B eb : Nat) (q h : Value) (p r : List Int) (w : World) : Prop :=
 ∃ (pv rv vb : Value) (g g2 nb : Nat) (xb : List Value), w.heap[eb]? = some (.cells #[pv, rv, vb, q, h] 131 (0, 0)) ∧ Row B w pv g p ∧ Row B w rv g2 r ∧ g ≠ g2 ∧ vb.ownBlock ≠ some g ∧ vb.ownBlock ≠ some g2 ∧ w.ownsRow B 5 1 vb nb xb ∧ B ≤ w.heap.size ∧ B ≤ eb
theorem Row.fr {S : Nat → Prop} {B : Nat} {w w' : World} {v : Value} {g : Nat} {p : List Int} (h : Row B w v g p) (hf : Fr S w w') (hn : ¬ S g) : Row B w' v g p := by
 obtain ⟨zs, h1, h2, h3⟩ := h
 exact ⟨zs, h1, h2.fr hf hn, h3⟩
theorem own_typ {B : Nat} {w : World} {v : Value} {n : Nat} {xs : List Value} (h : w.ownsRow B 5 1 v n xs) (k : Nat) (hk : v.ownBlock = some k) : B ≤ k ∧ ∃ cs fr, w.heap[k]? = some (.cells cs 5 fr) := by
 obtain ⟨hl, ⟨rfl, rfl⟩ | ⟨g, cap, cur, rfl, h1, h2, h3, h4, h5, h6⟩⟩ := h
 ·simp [Value.ownBlock] at hk
 ·simp [Value.ownBlock] at hk
  subst hk
  exact ⟨by assumption, _, _, by assumption⟩
theorem Er.fr {B eb : Nat} {w w1 : World} (h : Fr (Er B eb w) w w1) {k : Nat} (hk : k < w.heap.size) (hn : k ≠ eb) {o : Obj} (ho : w.heap[k]? = some o) (hb : ∀ cs fr, o ≠ .cells cs 5 fr) : w1.heap[k]? = some o := by
 refine h.heap ho ?_
 rintro (h | ⟨_, cs, fr, h⟩)
 ·exact hn h
 ·rw [ho] at h; injection h with h; exact hb _ _ h
/-- Behind a call of replacePathElement on one of the two rows, and the two stores. -/
theorem enc_side (i : Nat) (hi : i < 2) {B eb : Nat} {q h pv rv vb : Value} {g g2 : Nat} {w1 w2 : World} {zs zs' : List Int} {po : List Int} {g' nb' : Nat} {vb' : Value} {xb' : List Value} {ov : Value} {r : List Int}
 (hE : w1.heap[eb]? = some (.cells #[pv, rv, vb, q, h] 131 (0, 0))) (hz : BAt w1 g zs) (hR : Row B w1 ov g2 r) (hov : ov = if i = 0 then rv else pv) (hg : g ≠ g2) (hn1 : vb.ownBlock ≠ some g) (hn2 : vb.ownBlock ≠ some g2)
 {nb : Nat} {xb : List Value} (ho : w1.ownsRow B 5 1 vb nb xb) (hB : B ≤ w1.heap.size) (hBe : B ≤ eb) (hBg : B ≤ g)
 (q1 : BAt w2 g' zs') (q2 : po.length ≤ zs'.length) (q3 : zs'.length ≤ 9223372036854775807) (q4 : zs'.take po.length = po) (q5 : g' = g ∨ w1.heap.size ≤ g') (q6 : w2.ownsRow B 5 1 vb' nb' xb')
 (q7 : vb'.ownBlock = vb.ownBlock ∨ ∃ b, vb'.ownBlock = some b ∧ w1.heap.size ≤ b) (q8 : vb'.ownBlock ≠ some g') (q9 : Fr (fun k => k = g ∨ vb.ownBlock = some k) w1 w2) :
 EncS B eb q h (if i = 0 then po else r) (if i = 0 then r else po) ((w2.setCell ⟨eb, i, none⟩ (.slice (some ⟨g', 0, none⟩) po.length zs'.length)).setCell ⟨eb, 2, none⟩ vb') ∧
  Fr (Er B eb w1) w1 ((w2.setCell ⟨eb, i, none⟩ (.slice (some ⟨g', 0, none⟩) po.length zs'.length)).setCell ⟨eb, 2, none⟩ vb') := by
 have hlt := lt_of hE
 have heg : eb ≠ g := by rintro rfl; obtain ⟨fr, h, _⟩ := hz; rw [hE] at h; simp at h
 have hev : vb.ownBlock ≠ some eb := by intro h; obtain ⟨_, cs, fr, h⟩ := own_typ ho _ h; rw [hE] at h; simp at h
 have hE2 := q9.heap hE (by rintro (h | h); exact heg h; exact hev h)
 have heg' : eb ≠ g' := by rcases q5 with h | h; rw [h]; exact heg; omega
 have hev' : ∀ k, vb'.ownBlock = some k → k ≠ eb := by
  intro k hk hke
  subst hke
  rcases q7 with h | ⟨b, h, hb⟩
  ·exact hev (h.symm.trans hk)
  ·rw [h] at hk; injection hk with hk; omega
 have hg2 : g2 < w1.heap.size := by obtain ⟨_, _, h, _⟩ := hR; exact h.lt
 have heg2 : eb ≠ g2 := by rintro rfl; obtain ⟨_, _, ⟨fr, h, _⟩, _⟩ := hR; rw [hE] at h; simp at h
 have hF : Fr (Er B eb w1) w1 w2 := q9.mono (fun k hk hs => by
  rcases hs with h | h
  ·subst h; obtain ⟨fr, h, _⟩ := hz; exact .inr ⟨hBg, _, _, h⟩
  ·obtain ⟨h1, cs, fr, h2⟩ := own_typ ho _ h; exact .inr ⟨h1, cs, fr, h2⟩)
 have hF3 := (hF.setCell (p := ⟨eb, i, none⟩) (.inl (.inl rfl)) (.slice (some ⟨g', 0, none⟩) po.length zs'.length)).setCell (p := ⟨eb, 2, none⟩) (.inl (.inl rfl)) vb'
 have hF23 : Fr (fun k => k = eb) w2 ((w2.setCell ⟨eb, i, none⟩ (.slice (some ⟨g', 0, none⟩) po.length zs'.length)).setCell ⟨eb, 2, none⟩ vb') :=
  ((Fr.refl (fun k => k = eb) w2).setCell (p := ⟨eb, i, none⟩) (.inl rfl) _).setCell (p := ⟨eb, 2, none⟩) (.inl rfl) _
 refine ⟨?_, hF3⟩
 have hE3 := heap_set (heap_set hE2 i (.slice (some ⟨g', 0, none⟩) po.length zs'.length)) 2 vb'
 have hR3 : Row B ((w2.setCell ⟨eb, i, none⟩ (.slice (some ⟨g', 0, none⟩) po.length zs'.length)).setCell ⟨eb, 2, none⟩ vb') ov g2 r :=
  (hR.fr q9 (by rintro (h | h); exact hg h.symm; exact hn2 h)).fr hF23 (fun h => heg2 h.symm)
 have hP3 : Row B ((w2.setCell ⟨eb, i, none⟩ (.slice (some ⟨g', 0, none⟩) po.length zs'.length)).setCell ⟨eb, 2, none⟩ vb') (.slice (some ⟨g', 0, none⟩) po.length zs'.length) g' po :=
  ⟨zs', rfl, q1.fr hF23 (fun h => heg' h.symm), q2, q3, q4, by rcases q5 with h | h <;> omega⟩
 have hgg : g' ≠ g2 := by rcases q5 with h | h; rw [h]; exact hg; omega
 have hvg2 : vb'.ownBlock ≠ some g2 := by
  rcases q7 with h | ⟨b, h, hb⟩
  ·rw [h]; exact hn2
  ·rw [h]; intro e; injection e with e; omega
 have ho3 := hF23.own q6 (fun k hk he => hev' k hk he)
 have hB3 := Nat.le_trans hB hF3.size
 match i, hi with
 | 0, _ =>
   subst hov
   exact ⟨_, _, vb', g', g2, nb', xb', by simpa using hE3, hP3, by simpa using hR3, hgg, q8, hvg2, ho3, hB3, hBe⟩
 | 1, _ =>
   subst hov
   exact ⟨_, _, vb', g2, g', nb', xb', by simpa using hE3, by simpa using hR3, hP3, hgg.symm, hvg2, q8, ho3, hB3, hBe⟩
end H
end Go.Proofs.YtclmjmfcggkpaaaGreatDoor
