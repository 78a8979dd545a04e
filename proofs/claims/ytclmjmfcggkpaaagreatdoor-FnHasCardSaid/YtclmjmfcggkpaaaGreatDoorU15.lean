import Derived.Test.YtclmjmfcggkpaaaGreatDoorU14
import Derived.Deep.RegionHeld3
set_option linter.unusedVariables false
set_option linter.unusedSimpArgs false
namespace Go.Proofs.YtclmjmfcggkpaaaGreatDoor
open Go.RowKit Go.Proofs.YtclmjmfcggkpaaaGreatDoorW.PrintWords Go.Proofs.YtclmjmfcggkpaaaGreatDoorW.PrintLast Go.Proofs.YtclmjmfcggkpaaaGreatDoorW.PrintMore
open PX
open Go.ChangeMaps (setBlock)
namespace HH
open H
set_option maxHeartbeats 1000000 in
set_option maxRecDepth 100000 in
theorem mod_add {B m clock n : Nat} {X : Nat → Prop} {rs : List MR} (key val : ByteArray) (w : World) (H : HMr B X m rs clock w) (hN : ∀ k, X k → k < w.heap.size) (hl : rs.length ≤ n) (hx : ∀ r ∈ rs, r.xs.length ≤ 1000000) :
 Calls Tryz.prog 144 #[.agg #[.map (some m), .string key, .bool true], .string val] w fun e w' => e = .returned (.tuple #[]) ∧ HMq B X m (n + 1) (upT (HH.lk (rs.map MR.hd)) key ((HH.lk (rs.map MR.hd) key).getD [] ++ [val])) w' ∧ Fr (fun k => B ≤ k ∧ ¬ X k) w w' := by
 obtain ⟨v, xs, hL⟩ := look_ex rs key
 have hxs := hL.lk H.keys
 rw [← hxs]
 have hlen : Aside0 (xs.length ≤ 1000000) := .mk (hL.len hx)
 have hold : Aside0 (∀ k, v.ownBlock = some k → k < w.heap.size) := .mk (fun k hk => hL.lt H k hk)
 replace hL := Aside0.mk hL
 replace H := Aside0.mk H
 replace hx := Aside0.mk hx
 go_enter Tryz.func144, Tryz.ntmps144
 go_wp2_with fail
 have hu := heap_new w (.cells #[.map (some m), .string key, .bool true] 125)
 have hb1 := below_alloc (Below.refl w.heap.size w) (.cells #[.map (some m), .string key, .bool true] 125)
 generalize w.alloc (.cells #[.map (some m), .string key, .bool true] 125) = w1 at *
 have H1 := Aside0.mk (H.out.calm hb1)
 have hB1 : Aside0 (B ≤ w1.heap.size) := .mk (by have := H1.out.geB; have := H1.out.lt; omega)
 have hN1 : Aside0 (∀ k, X k → k < w1.heap.size) := .mk (fun k hk => by have := hN k hk; have := hb1.size; omega)
 have hoff : Aside0 (∀ k, v.ownBlock = some k → k ≠ w.heap.size) := .mk (fun k hk => by
  have := hold.out k hk
  omega)
 replace hb1 := Aside0.mk hb1
 generalize hub : w.heap.size = ub at *
 have c0 := cell_at hu 0; have c1 := cell_at hu 1; have c2 := cell_at hu 2
 simp at c0 c1 c2
 replace hu := Aside0.mk hu
 have hobj := H1.out.obj
 have hrun : ∀ (w' : World), w'.heap[m]? = some (.map (rs.map MR.ent).toArray clock) → (Instr.lookup 76 (.map (some m)) (.string key) false).run Tryz.prog w' = .ok v w' := fun w' h => hL.out.run H1.out.keys h
 have hrun0 := hrun w1 hobj
 have hrun1 := hrun w1.drew hobj
 have hrun2 := fun o => hrun (w1.drew.alloc o) (heap_old (w := w1.drew) hobj o)
 have hrun3 := fun o => hrun (w1.alloc o).drew (heap_old (w := w1.drew) hobj o)
 have hrow : Aside0 (Kd.string.R 9 w1.drew B (fun k => ¬ X k) v xs) := .mk (hL.out.row (H1.out.fr (Fr.refl (fun _ => False) w1).drew (fun h => h) (fun _ _ _ _ h => h)))
 go_wp2_with fail
 refine wp_region_noPanic ?_
 refine wp_region_held_drew (S := fun w' => w'.cell? ⟨ub, 0, none⟩ = some (.map (some m)) ∧ w'.cell? ⟨ub, 1, none⟩ = some (.string key)) (by kernel_rfl) ⟨c0, c1⟩ (fun hHeld => ?_)
 refine tk 0 ?_
 refine tk 1 ?_
 refine tk 2 ?_
 refine tk 3 ?_
 refine tk 4 ?_
 refine tk 5 ?_
 refine tk 6 ?_
 refine tk 7 ?_
 refine tk 9 ?_
 refine wpAnyH_ready (rs := [8, 10]) (by kernel_rfl) (by simp) ?_
 refine AllReadyH.cons rfl (fun K hK => ?_) (AllReadyH.cons rfl (fun K hK => ?_) AllReadyH.nil)
 ·go_simp
  refine hK.out _ _ ⟨c0, c1⟩ (fun hHeld => ?_)
  clear hK K
  skip
  refine rd1 10 (fun K hK => ?_)
  go_simp
  refine hK.out _ _ ⟨cell_of_alloc c0, cell_of_alloc c1⟩ (fun hHeld => ?_)
  clear hK K
  skip
  refine rd1 11 (fun K hK => ?_)
  refine Kd.R_append_step Kd.string (w0 := w1.drew) B (by rfl) (.tmp 14) (.tmp 16) 67 9 (.string ⟨#[]⟩) 16 rfl Tryz.underlying67 inf9 rfl (by decide) (by omega) v xs val [.string val] (fun k => ¬ X k) (fun _ => False) rfl rfl rfl (fun _ hk => hk.elim) (fun k hk hX => by have := hN1.out k hX; have hk' : w1.heap.size ≤ k := hk; omega) hrow.out (Below.refl _ _) hB1.out (by have := hlen.out; omega) ?_
  intro v1 w2 hR2 hb2 hg2 hat2
  obtain ⟨W3, hup, hq, hf, hsame⟩ := hL.out.put (H1.out.fr (Fr.refl (fun _ => False) w1).drew (fun h => h) (fun _ _ _ _ h => h)) hl hg2 hR2 hat2
  have hub2 : w2.heap[ub]? = some (.cells #[.map (some m), .string key, .bool true] 125 (0, 0)) := (hg2.block ub (lt_of hu.out) (fun e => hoff.out ub e.symm rfl)).trans hu.out
  have hub3 : W3.heap[ub]? = some (.cells #[.map (some m), .string key, .bool true] 125 (0, 0)) := (hsame ub (fun e => by subst e; have h1 := hu.out; rw [hobj] at h1; cases h1)).trans hub2
  have d0 := cell_at hub2 0; have d1 := cell_at hub2 1; have e0 := cell_at hub3 0; have e1 := cell_at hub3 1
  simp at d0 d1 e0 e1
  replace hR2 := Aside0.mk hR2; replace hb2 := Aside0.mk hb2; replace hg2 := Aside0.mk hg2; replace hat2 := Aside0.mk hat2; replace hub2 := Aside0.mk hub2; replace hub3 := Aside0.mk hub3; replace hq := Aside0.mk hq; replace hf := Aside0.mk hf
  refine hK.out _ _ ⟨d0, d1⟩ (fun hHeld => ?_)
  clear hK K
  try simp only [Act.put, List.setIfInBounds_toArray, List.set_cons_zero, List.set_cons_succ]
  refine rd1 12 (fun K hK => ?_)
  go_simp
  refine hK.out _ _ ⟨e0, e1⟩ (fun hHeld => ?_)
  clear hK K
  skip
  refine wpAnyH_done (by kernel_rfl) ?_ _
  refine NoPanic.normal ?_
  clear hHeld d0 d1 e0 e1 c0 c1 hrun hobj hup
  try go_wp2_with fail
  refine bodyPost_end (results_none rfl _ _ _) rfl ?_
  subst hub
  exact ⟨rfl, hq.out, ((Fr.of_below (S := fun k => B ≤ k ∧ ¬ X k) hb1.out).drew).trans hf.out (fun _ _ h => h)⟩
 ·go_simp
  refine hK.out _ _ ⟨cell_of_alloc c0, cell_of_alloc c1⟩ (fun hHeld => ?_)
  clear hK K
  skip
  refine rd1 8 (fun K hK => ?_)
  go_simp
  refine hK.out _ _ ⟨cell_of_alloc c0, cell_of_alloc c1⟩ (fun hHeld => ?_)
  clear hK K
  skip
  refine rd1 11 (fun K hK => ?_)
  refine Kd.R_append_step Kd.string (w0 := w1.drew) B (by rfl) (.tmp 14) (.tmp 16) 67 9 (.string ⟨#[]⟩) 16 rfl Tryz.underlying67 inf9 rfl (by decide) (by omega) v xs val [.string val] (fun k => ¬ X k) (fun _ => False) rfl rfl rfl (fun _ hk => hk.elim) (fun k hk hX => by have := hN1.out k hX; have hk' : w1.heap.size ≤ k := hk; omega) hrow.out (Below.refl _ _) hB1.out (by have := hlen.out; omega) ?_
  intro v1 w2 hR2 hb2 hg2 hat2
  obtain ⟨W3, hup, hq, hf, hsame⟩ := hL.out.put (H1.out.fr (Fr.refl (fun _ => False) w1).drew (fun h => h) (fun _ _ _ _ h => h)) hl hg2 hR2 hat2
  have hub2 : w2.heap[ub]? = some (.cells #[.map (some m), .string key, .bool true] 125 (0, 0)) := (hg2.block ub (lt_of hu.out) (fun e => hoff.out ub e.symm rfl)).trans hu.out
  have hub3 : W3.heap[ub]? = some (.cells #[.map (some m), .string key, .bool true] 125 (0, 0)) := (hsame ub (fun e => by subst e; have h1 := hu.out; rw [hobj] at h1; cases h1)).trans hub2
  have d0 := cell_at hub2 0; have d1 := cell_at hub2 1; have e0 := cell_at hub3 0; have e1 := cell_at hub3 1
  simp at d0 d1 e0 e1
  replace hR2 := Aside0.mk hR2; replace hb2 := Aside0.mk hb2; replace hg2 := Aside0.mk hg2; replace hat2 := Aside0.mk hat2; replace hub2 := Aside0.mk hub2; replace hub3 := Aside0.mk hub3; replace hq := Aside0.mk hq; replace hf := Aside0.mk hf
  refine hK.out _ _ ⟨d0, d1⟩ (fun hHeld => ?_)
  clear hK K
  try simp only [Act.put, List.setIfInBounds_toArray, List.set_cons_zero, List.set_cons_succ]
  refine rd1 12 (fun K hK => ?_)
  go_simp
  refine hK.out _ _ ⟨e0, e1⟩ (fun hHeld => ?_)
  clear hK K
  skip
  refine wpAnyH_done (by kernel_rfl) ?_ _
  refine NoPanic.normal ?_
  clear hHeld d0 d1 e0 e1 c0 c1 hrun hobj hup
  try go_wp2_with fail
  refine bodyPost_end (results_none rfl _ _ _) rfl ?_
  subst hub
  exact ⟨rfl, hq.out, ((Fr.of_below (S := fun k => B ≤ k ∧ ¬ X k) hb1.out).drew).trans hf.out (fun _ _ h => h)⟩
set_option maxHeartbeats 1000000 in
set_option maxRecDepth 100000 in
theorem mod_set {B m clock n : Nat} {X : Nat → Prop} {rs : List MR} (key val : ByteArray) (w : World) (H : HMr B X m rs clock w) (hN : ∀ k, X k → k < w.heap.size) (hl : rs.length ≤ n) (hx : ∀ r ∈ rs, r.xs.length ≤ 1000000) :
 Calls Tryz.prog 144 #[.agg #[.map (some m), .string key, .bool false], .string val] w fun e w' => e = .returned (.tuple #[]) ∧ HMq B X m (n + 1) (upT (HH.lk (rs.map MR.hd)) key (([] : List ByteArray) ++ [val])) w' ∧ Fr (fun k => B ≤ k ∧ ¬ X k) w w' := by
 obtain ⟨v, xs, hL⟩ := look_ex rs key
 have hlen : Aside0 (xs.length ≤ 1000000) := .mk (hL.len hx)
 obtain ⟨v0, hv0, hcut, hcr⟩ := hL.cut H
 replace hv0 := Aside0.mk hv0
 have hold : Aside0 (∀ k, v0.ownBlock = some k → k < w.heap.size) := .mk (fun k hk => hL.lt H k (by rw [← hv0.out]; exact hk))
 replace hL := Aside0.mk hL
 replace H := Aside0.mk H
 replace hx := Aside0.mk hx
 go_enter Tryz.func144, Tryz.ntmps144
 go_wp2_with fail
 have hu := heap_new w (.cells #[.map (some m), .string key, .bool false] 125)
 have hb1 := below_alloc (Below.refl w.heap.size w) (.cells #[.map (some m), .string key, .bool false] 125)
 generalize w.alloc (.cells #[.map (some m), .string key, .bool false] 125) = w1 at *
 have H1 := Aside0.mk (H.out.calm hb1)
 have hB1 : Aside0 (B ≤ w1.heap.size) := .mk (by have := H1.out.geB; have := H1.out.lt; omega)
 have hN1 : Aside0 (∀ k, X k → k < w1.heap.size) := .mk (fun k hk => by have := hN k hk; have := hb1.size; omega)
 have hoff : Aside0 (∀ k, v0.ownBlock = some k → k ≠ w.heap.size) := .mk (fun k hk => by
  have := hold.out k hk
  omega)
 replace hb1 := Aside0.mk hb1
 generalize hub : w.heap.size = ub at *
 have c0 := cell_at hu 0; have c1 := cell_at hu 1; have c2 := cell_at hu 2
 simp at c0 c1 c2
 replace hu := Aside0.mk hu
 have hobj := H1.out.obj
 have hrun : ∀ (w' : World), w'.heap[m]? = some (.map (rs.map MR.ent).toArray clock) → (Instr.lookup 76 (.map (some m)) (.string key) false).run Tryz.prog w' = .ok v w' := fun w' h => hL.out.run H1.out.keys h
 have hrun0 := hrun w1 hobj
 have hrun1 := hrun w1.drew hobj
 have hrun2 := fun o => hrun (w1.drew.alloc o) (heap_old (w := w1.drew) hobj o)
 have hrun3 := fun o => hrun (w1.alloc o).drew (heap_old (w := w1.drew) hobj o)
 have hrow : Aside0 (Kd.string.R 9 w1.drew B (fun k => ¬ X k) v0 ([] : List ByteArray)) := .mk (hcr _ (H1.out.fr (Fr.refl (fun _ => False) w1).drew (fun h => h) (fun _ _ _ _ h => h)))
 go_wp2_with fail
 refine wp_region_noPanic ?_
 refine wp_region_held_drew (S := fun w' => w'.cell? ⟨ub, 0, none⟩ = some (.map (some m)) ∧ w'.cell? ⟨ub, 1, none⟩ = some (.string key)) (by kernel_rfl) ⟨c0, c1⟩ (fun hHeld => ?_)
 refine tk 0 ?_
 refine tk 1 ?_
 refine tk 2 ?_
 refine tk 3 ?_
 refine tk 4 ?_
 refine tk 5 ?_
 refine tk 6 ?_
 refine tk 7 ?_
 refine tk 10 ?_
 refine wpAnyH_ready (rs := [8, 11]) (by kernel_rfl) (by simp) ?_
 refine AllReadyH.cons rfl (fun K hK => ?_) (AllReadyH.cons rfl (fun K hK => ?_) AllReadyH.nil)
 ·go_simp
  refine hK.out _ _ ⟨c0, c1⟩ (fun hHeld => ?_)
  clear hK K
  skip
  refine tk 9 ?_
  refine rd1 11 (fun K hK => ?_)
  go_simp
  refine hK.out _ _ ⟨cell_of_alloc c0, cell_of_alloc c1⟩ (fun hHeld => ?_)
  clear hK K
  skip
  refine rd1 12 (fun K hK => ?_)
  refine Kd.R_append_step Kd.string (w0 := w1.drew) B (by rfl) (.tmp 27) (.tmp 29) 67 9 (.string ⟨#[]⟩) 16 rfl Tryz.underlying67 inf9 rfl (by decide) (by omega) v0 ([] : List ByteArray) val [.string val] (fun k => ¬ X k) (fun _ => False) rfl rfl rfl (fun _ hk => hk.elim) (fun k hk hX => by have := hN1.out k hX; have hk' : w1.heap.size ≤ k := hk; omega) hrow.out (Below.refl _ _) hB1.out (by simp) ?_
  intro v1 w2 hR2 hb2 hg2 hat2
  obtain ⟨W3, hup, hq, hf, hsame⟩ := hL.out.put (H1.out.fr (Fr.refl (fun _ => False) w1).drew (fun h => h) (fun _ _ _ _ h => h)) hl (by rw [hv0.out] at hg2; exact hg2) hR2 (by rw [hv0.out] at hat2; exact hat2)
  have hub2 : w2.heap[ub]? = some (.cells #[.map (some m), .string key, .bool false] 125 (0, 0)) := (hg2.block ub (lt_of hu.out) (fun e => hoff.out ub e.symm rfl)).trans hu.out
  have hub3 : W3.heap[ub]? = some (.cells #[.map (some m), .string key, .bool false] 125 (0, 0)) := (hsame ub (fun e => by subst e; have h1 := hu.out; rw [hobj] at h1; cases h1)).trans hub2
  have d0 := cell_at hub2 0; have d1 := cell_at hub2 1; have e0 := cell_at hub3 0; have e1 := cell_at hub3 1
  simp at d0 d1 e0 e1
  replace hR2 := Aside0.mk hR2; replace hb2 := Aside0.mk hb2; replace hg2 := Aside0.mk hg2; replace hat2 := Aside0.mk hat2; replace hub2 := Aside0.mk hub2; replace hub3 := Aside0.mk hub3; replace hq := Aside0.mk hq; replace hf := Aside0.mk hf
  refine hK.out _ _ ⟨d0, d1⟩ (fun hHeld => ?_)
  clear hK K
  try simp only [Act.put, List.setIfInBounds_toArray, List.set_cons_zero, List.set_cons_succ]
  refine rd1 13 (fun K hK => ?_)
  go_simp
  refine hK.out _ _ ⟨e0, e1⟩ (fun hHeld => ?_)
  clear hK K
  skip
  refine wpAnyH_done (by kernel_rfl) ?_ _
  refine NoPanic.normal ?_
  clear hHeld d0 d1 e0 e1 c0 c1 hrun hobj hup
  try go_wp2_with fail
  refine bodyPost_end (results_none rfl _ _ _) rfl ?_
  subst hub
  exact ⟨rfl, hq.out, ((Fr.of_below (S := fun k => B ≤ k ∧ ¬ X k) hb1.out).drew).trans hf.out (fun _ _ h => h)⟩
 ·go_simp
  refine hK.out _ _ ⟨cell_of_alloc c0, cell_of_alloc c1⟩ (fun hHeld => ?_)
  clear hK K
  skip
  refine rd1 8 (fun K hK => ?_)
  go_simp
  refine hK.out _ _ ⟨cell_of_alloc c0, cell_of_alloc c1⟩ (fun hHeld => ?_)
  clear hK K
  skip
  refine tk 9 ?_
  refine rd1 12 (fun K hK => ?_)
  refine Kd.R_append_step Kd.string (w0 := w1.drew) B (by rfl) (.tmp 27) (.tmp 29) 67 9 (.string ⟨#[]⟩) 16 rfl Tryz.underlying67 inf9 rfl (by decide) (by omega) v0 ([] : List ByteArray) val [.string val] (fun k => ¬ X k) (fun _ => False) rfl rfl rfl (fun _ hk => hk.elim) (fun k hk hX => by have := hN1.out k hX; have hk' : w1.heap.size ≤ k := hk; omega) hrow.out (Below.refl _ _) hB1.out (by simp) ?_
  intro v1 w2 hR2 hb2 hg2 hat2
  obtain ⟨W3, hup, hq, hf, hsame⟩ := hL.out.put (H1.out.fr (Fr.refl (fun _ => False) w1).drew (fun h => h) (fun _ _ _ _ h => h)) hl (by rw [hv0.out] at hg2; exact hg2) hR2 (by rw [hv0.out] at hat2; exact hat2)
  have hub2 : w2.heap[ub]? = some (.cells #[.map (some m), .string key, .bool false] 125 (0, 0)) := (hg2.block ub (lt_of hu.out) (fun e => hoff.out ub e.symm rfl)).trans hu.out
  have hub3 : W3.heap[ub]? = some (.cells #[.map (some m), .string key, .bool false] 125 (0, 0)) := (hsame ub (fun e => by subst e; have h1 := hu.out; rw [hobj] at h1; cases h1)).trans hub2
  have d0 := cell_at hub2 0; have d1 := cell_at hub2 1; have e0 := cell_at hub3 0; have e1 := cell_at hub3 1
  simp at d0 d1 e0 e1
  replace hR2 := Aside0.mk hR2; replace hb2 := Aside0.mk hb2; replace hg2 := Aside0.mk hg2; replace hat2 := Aside0.mk hat2; replace hub2 := Aside0.mk hub2; replace hub3 := Aside0.mk hub3; replace hq := Aside0.mk hq; replace hf := Aside0.mk hf
  refine hK.out _ _ ⟨d0, d1⟩ (fun hHeld => ?_)
  clear hK K
  try simp only [Act.put, List.setIfInBounds_toArray, List.set_cons_zero, List.set_cons_succ]
  refine rd1 13 (fun K hK => ?_)
  go_simp
  refine hK.out _ _ ⟨e0, e1⟩ (fun hHeld => ?_)
  clear hK K
  skip
  refine wpAnyH_done (by kernel_rfl) ?_ _
  refine NoPanic.normal ?_
  clear hHeld d0 d1 e0 e1 c0 c1 hrun hobj hup
  try go_wp2_with fail
  refine bodyPost_end (results_none rfl _ _ _) rfl ?_
  subst hub
  exact ⟨rfl, hq.out, ((Fr.of_below (S := fun k => B ≤ k ∧ ¬ X k) hb1.out).drew).trans hf.out (fun _ _ h => h)⟩

end HH
end Go.Proofs.YtclmjmfcggkpaaaGreatDoor
