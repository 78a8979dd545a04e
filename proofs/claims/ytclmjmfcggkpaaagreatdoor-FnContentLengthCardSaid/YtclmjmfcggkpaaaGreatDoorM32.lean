import Derived.Test.YtclmjmfcggkpaaaGreatDoorM31
set_option linter.unusedVariables false
set_option linter.unusedSimpArgs false
namespace Go.Proofs.YtclmjmfcggkpaaaGreatDoor
open Go.RowKit Go.Proofs.YtclmjmfcggkpaaaGreatDoorW.PrintWords Go.Proofs.YtclmjmfcggkpaaaGreatDoorW.PrintLast Go.Proofs.YtclmjmfcggkpaaaGreatDoorW.PrintMore
open PX
open Go.ChangeMaps (setBlock)
namespace HH
open H
/-! ### Encoder.Encode with headers -/
def CL : ByteArray := ⟨#[67, 111, 110, 116, 101, 110, 116, 45, 76, 101, 110, 103, 116, 104]⟩
theorem HMq.frX {B m n : Nat} {X S : Nat → Prop} {T : ByteArray → Option (List ByteArray)} {w w' : World} (h : HMq B X m n T w) (hf : Fr S w w') (hS : ∀ k, S k → X k) : HMq B X m n T w' := by
  obtain ⟨rs, clock, h1, h2, h3⟩ := h.out
  exact ⟨rs, clock, h1.fr hf (fun e => h1.neN (hS _ e)) (fun r hr k hk e => (h1.rowM hr hk).2.2.1 (hS _ e)), h2, h3⟩
theorem parse_call (n : Int) (h0 : 0 ≤ n) (h1 : n ≤ 9223372036854775807) (w : World) :
    Calls Tryz.prog 83 #[.string (decS n), .int .i64 10, .int .i64 64] w fun e w' => e = .returned (.tuple #[.int .i64 n, .nilIface]) ∧ Below w.heap.size w w' :=
  (Tryz.strconv_ParseInt_10_at64_ok (decS n) (by have := decS_size n (by omega) h1; omega) n (parseInt_dec n h0 h1) w).mono fun e w' ⟨he, hw⟩ => ⟨he, by
    rcases hw with rfl | ⟨t, rfl⟩
    · exact Below.refl _ _
    · exact bytesWorld_below w t⟩
set_option maxHeartbeats 2000000 in
set_option maxRecDepth 100000 in
theorem encode_len {C eb qm hm n : Nat} {X : Nat → Prop} {T : ByteArray → Option (List ByteArray)} {p r : List Int} {w : World} (he : EncK C eb qm hm p r w) (hh : HMq C X hm n T w) (num : Int) (hnum : 0 ≤ num ∧ num ≤ 9223372036854775807) (hcl : T CL = some [decS num])
    (rb ub : Nat) (hXu : X ub) (hXr : X rb) (hXe : X eb) (R0 U0 : Array Value) (hR0 : w.heap[rb]? = some (.cells R0 91 (0, 0))) (hU0 : w.heap[ub]? = some (.cells U0 89 (0, 0))) (hr1 : R0[1]? = some (.pointer (some ⟨ub, 0, none⟩)))
    (r3 r4 u4 u6 u7 : Value) (hr3 : R0[3]? = some r3) (hr4 : R0[4]? = some r4) (hu4 : U0[4]? = some u4) (hu6 : U0[6]? = some u6) (hu7 : U0[7]? = some u7) :
    Calls Tryz.prog 47 #[.pointer (some ⟨eb, 0, none⟩), .pointer (some ⟨rb, 0, none⟩)] w fun e w' =>
      e = .returned (.tuple #[.pointer (some ⟨rb, 0, none⟩), .nilIface]) ∧ w'.heap[ub]? = some (.cells (((U0.setIfInBounds 4 (.string (strOfNums p))).setIfInBounds 7 (.string (strOfNums r))).setIfInBounds 6 (.string ⟨#[]⟩)) 89 (0, 0)) ∧
        w'.heap[rb]? = some (.cells ((R0.setIfInBounds 4 (.int .i64 num)).setIfInBounds 3 (.map (some hm))) 91 (0, 0)) ∧ HMq C X hm n (fun k => if CL = k then none else T k) w' ∧ Fr (fun k => k = ub ∨ k = rb ∨ k = hm) w w' := by
  obtain ⟨g, g2, z1, z2, hE, hz1, hl1, ht1, hm1, hz2, hl2, ht2, hm2, hgC, hg2C, hg, hqC, hCe, hq⟩ := he
  have hcp : ∀ w', BAt w' g z1 → (Go.convert 104 9 (.slice (some ⟨g, 0, none⟩) p.length z1.length)).run Tryz.prog w' = .ok (.string (strOfNums p)) w' := fun w' h => by
    have := h.str (P := Tryz.prog) (n := p.length) (c := z1.length) hl1 Tryz.underlying104 Tryz.underlying5 Tryz.underlying9
    rw [ht1] at this
    exact this
  have hcr : ∀ w', BAt w' g2 z2 → (Go.convert 104 9 (.slice (some ⟨g2, 0, none⟩) r.length z2.length)).run Tryz.prog w' = .ok (.string (strOfNums r)) w' := fun w' h => by
    have := h.str (P := Tryz.prog) (n := r.length) (c := z2.length) hl2 Tryz.underlying104 Tryz.underlying5 Tryz.underlying9
    rw [ht2] at this
    exact this
  have n1 : ¬ g = ub := by rintro rfl; obtain ⟨_, h, _⟩ := hz1; rw [hU0] at h; simp at h
  have n2 : ¬ g2 = ub := by rintro rfl; obtain ⟨_, h, _⟩ := hz2; rw [hU0] at h; simp at h
  have n3 : ¬ ub = eb := by rintro rfl; rw [hU0] at hE; simp at hE
  have n4 : ¬ ub = rb := by rintro rfl; rw [hU0] at hR0; simp at hR0
  have c0 := cell_at hE 0; have c1 := cell_at hE 1
  have d1 := cell_at hR0 1; rw [hr1] at d1
  have v4 := cell_at hU0 4; have v7 := cell_at hU0 7; have f4 := free_of hU0 4; have f7 := free_of hU0 7; rw [hu4] at v4; rw [hu7] at v7
  simp at c0 c1
  have w4 := fun X => cell_at (heap_set hU0 7 X) 4; have w7 := fun X => cell_at (heap_set hU0 4 X) 7
  have x4 := fun X => free_of (heap_set hU0 7 X) 4; have x7 := fun X => free_of (heap_set hU0 4 X) 7
  simp [hu4, hu7] at w4 w7 x4 x7
  have hAE := Aside0.mk hE; have hAR := Aside0.mk hR0; have hAU := Aside0.mk hU0; have hAq := Aside0.mk hq; have hAh := Aside0.mk hh
  clear hE hR0 hU0 hq hh ht1 ht2
  go_enter Tryz.func47, Tryz.ntmps47
  go_wp2_with fail
  go_region_held3 (fun w' => w'.cell? ⟨rb, 1, none⟩ = some (.pointer (some ⟨ub, 0, none⟩)) ∧ w'.cell? ⟨eb, 0, none⟩ = some (.slice (some ⟨g, 0, none⟩) p.length z1.length) ∧ w'.cell? ⟨eb, 1, none⟩ = some (.slice (some ⟨g2, 0, none⟩) r.length z2.length) ∧ BAt w' g z1 ∧ BAt w' g2 z2) (simp [*, World.cell?_alloc_some, World.cell?_setCell_far, BAt.setFar, BAt.drewEq]) (fail)
  have hU1 := heap_set (heap_set hAU.out 4 (.string (strOfNums p))) 7 (.string (strOfNums r))
  have hF1 : Fr (fun k => k = ub) w ((w.setCell ⟨ub, 4, none⟩ (.string (strOfNums p))).setCell ⟨ub, 7, none⟩ (.string (strOfNums r))) := ((Fr.refl (fun k => k = ub) w).setCell (p := ⟨ub, 4, none⟩) (.inl rfl) _).setCell (p := ⟨ub, 7, none⟩) (.inl rfl) _
  have hE1 := hF1.heap hAE.out (fun h => n3 h.symm)
  have hR1 := hF1.heap hAR.out (fun h => n4 h.symm)
  have hq1 := hF1.heap hAq.out (fun h => by subst h; have := hAq.out; rw [hAU.out] at this; simp at this)
  have hh1 := hAh.out.frX (hF1) (fun k e => by subst e; exact hXu)
  clear v4 v7 f4 f7 w4 w7 x4 x7 c0 c1 d1
  change Exit.then _ _ _ _ ((w.setCell ⟨ub, 4, none⟩ (.string (strOfNums p))).setCell ⟨ub, 7, none⟩ (.string (strOfNums r))).drew
  generalize (w.setCell ⟨ub, 4, none⟩ (.string (strOfNums p))).setCell ⟨ub, 7, none⟩ (.string (strOfNums r)) = w1 at *
  have c3 := cell_at hE1 3; have c4 := cell_at hE1 4; simp at c3 c4
  have d1 := cell_at hR1 1; rw [hr1] at d1
  have v6 := cell_at hU1 6; have f6 := free_of hU1 6
  simp [hu6] at v6
  have hAE1 := Aside0.mk hE1; have hAR1 := Aside0.mk hR1; have hAU1 := Aside0.mk hU1; have hAq1 := Aside0.mk hq1; have hAh1 := Aside0.mk hh1
  have nq : ¬ ub = qm := by rintro rfl; have := hAq.out; rw [hAU.out] at this; simp at this
  have hqs : ∀ w' : World, ∀ X, (w'.setCell ⟨ub, 6, none⟩ X).heap[qm]? = w'.heap[qm]? := fun w' X => Below.heap_setCell w' ⟨ub, 6, none⟩ X qm (fun h => nq h.symm)
  have hqd : ∀ w' : World, w'.drew.heap = w'.heap := fun _ => rfl
  clear hE1 hR1 hU1 hh1
  go_wp2_with fail
  go_region_held3 (fun w' => w'.cell? ⟨rb, 1, none⟩ = some (.pointer (some ⟨ub, 0, none⟩)) ∧ w'.cell? ⟨eb, 3, none⟩ = some (.map (some qm)) ∧ w'.heap[qm]? = some (.map #[] 0)) (simp [*, World.cell?_alloc_some, World.cell?_setCell_far, hqs, hqd]) ((go_at_call 81; refine (qenc_nil qm _ (by first | assumption | exact hq1)).mono ?_; rintro e w2 ⟨rfl, rfl⟩))
  have hF2 : Fr (fun k => k = ub) w1 (w1.setCell ⟨ub, 6, none⟩ (.string ⟨#[]⟩)) := (Fr.refl (fun k => k = ub) w1).setCell (p := ⟨ub, 6, none⟩) (.inl rfl) _
  have hU2 := heap_set hAU1.out 6 (.string ⟨#[]⟩)
  have hE2 := hF2.heap hAE1.out (fun h => n3 h.symm)
  have hR2 := hF2.heap hAR1.out (fun h => n4 h.symm)
  have hh2 := hAh1.out.frX (hF2) (fun k e => by subst e; exact hXu)
  clear v6 f6 c3 c4 d1
  change Exit.then _ _ _ _ (w1.setCell ⟨ub, 6, none⟩ (.string ⟨#[]⟩)).drew.drew
  generalize w1.setCell ⟨ub, 6, none⟩ (.string ⟨#[]⟩) = w2 at *
  have c4 := cell_at hE2 4; simp at c4
  have v3 := cell_at hR2 3; have f3 := free_of hR2 3; simp [hr3] at v3
  have v4' := cell_at hR2 4; have f4' := free_of hR2 4; simp [hr4] at v4'
  have hAE2 := Aside0.mk hE2; have hAR2 := Aside0.mk hR2; have hAU2 := Aside0.mk hU2; have hAh2 := Aside0.mk hh2
  clear hE2 hR2 hU2 hh2
  have hpos := decS_pos num hnum.1
  have hlen : (0 : Int) < ((decS num).size : Int) := by omega
  go_wp2_with fail
  refine (get_some (w := w2.drew.drew) (hAh2.out.frX ((Fr.refl (fun _ => False) w2).drew.drew) (fun _ h => h.elim)) CL (decS num) hcl).mono ?_
  rintro e w3 ⟨rfl, rfl⟩
  go_wp2_with fail
  refine (parse_call num hnum.1 hnum.2 w2.drew.drew).mono ?_
  rintro e w4 ⟨rfl, hb4⟩
  have hb4' : Below w2.heap.size w2 w4 := ⟨hb4.os, hb4.tape, hb4.output, hb4.size, hb4.block⟩
  have hE4 := heap_below hb4' hAE2.out; have hR4 := heap_below hb4' hAR2.out; have hU4 := heap_below hb4' hAU2.out
  have hh4 := hAh2.out.calm hb4'
  have c4 := cell_at hE4 4; simp at c4
  have v3 := cell_at hR4 3; have f3 := free_of hR4 3; simp [hr3] at v3
  have v4' := cell_at hR4 4; have f4' := free_of hR4 4; simp [hr4] at v4'
  have hF4 : Fr (fun k => k = ub) w w4 := (hF1.trans hF2 (fun _ _ h => h)).trans (Fr.of_below (S := fun _ => False) hb4') (fun _ _ h => h.elim)
  have nrb : ¬ rb = eb := by rintro rfl; rw [hR4] at hE4; simp at hE4
  have nrb' : ¬ eb = rb := fun e => nrb e.symm
  replace hE4 := Aside0.mk hE4; replace hR4 := Aside0.mk hR4; replace hU4 := Aside0.mk hU4; replace hh4 := Aside0.mk hh4; replace hF4 := Aside0.mk hF4
  clear hb4 hb4' hAE2 hAR2 hAU2 hAh2
  go_wp2_with fail
  have hF5 : Fr (fun k => k = rb) w4 (w4.setCell ⟨rb, 4, none⟩ (.int .i64 num)) := (Fr.refl (fun k => k = rb) w4).setCell (p := ⟨rb, 4, none⟩) (.inl rfl) _
  have hE5 := hF5.heap hE4.out (fun e => by subst e; have := hE4.out; rw [hR4.out] at this; simp at this)
  have hR5 := heap_set hR4.out 4 (.int .i64 num)
  have hU5 := hF5.heap hU4.out n4
  have hh5 := hh4.out.frX hF5 (fun k e => by subst e; exact hXr)
  clear c4 v3 f3 v4' f4'
  generalize w4.setCell ⟨rb, 4, none⟩ (.int .i64 num) = w5 at *
  replace hE5 := Aside0.mk hE5; replace hR5 := Aside0.mk hR5; replace hU5 := Aside0.mk hU5; replace hh5 := Aside0.mk hh5; replace hF5 := Aside0.mk hF5
  refine (del_call hh5.out CL _ hcl).mono ?_
  rintro e w6 ⟨rfl, hh6, hF6⟩
  have hgm := hh5.out.geB
  have hE6 := hF6.heap hE5.out (fun e => hgm.2.2 (by rw [← e]; exact hXe))
  have hR6 := hF6.heap hR5.out (fun e => hgm.2.2 (by rw [← e]; exact hXr))
  have hU6 := hF6.heap hU5.out (fun e => hgm.2.2 (by rw [← e]; exact hXu))
  have c4 := cell_at hE6 4; simp at c4
  have v3 := cell_at hR6 3; have f3 := free_of hR6 3; simp [hr3] at v3
  replace hE6 := Aside0.mk hE6; replace hR6 := Aside0.mk hR6; replace hU6 := Aside0.mk hU6; replace hh6 := Aside0.mk hh6; replace hF6 := Aside0.mk hF6
  go_wp2
  go_ret2
  have hF7 : Fr (fun k => k = ub ∨ k = rb ∨ k = hm) w (w6.setCell ⟨rb, 3, none⟩ (.map (some hm))) :=
    (((hF4.out.mono (fun _ _ h => .inl h)).trans hF5.out (fun _ _ h => .inr (.inl h))).trans hF6.out (fun _ _ h => .inr (.inr h))).setCell (p := ⟨rb, 3, none⟩) (.inl (.inr (.inl rfl))) _
  have hFs : Fr (fun k => k = rb) w6 (w6.setCell ⟨rb, 3, none⟩ (.map (some hm))) := (Fr.refl (fun k => k = rb) w6).setCell (p := ⟨rb, 3, none⟩) (.inl rfl) _
  refine ⟨rfl, ?_, ?_, hh6.out.frX hFs (fun k e => by subst e; exact hXr), hF7⟩
  · exact heap_far hU6.out (p := ⟨rb, 3, none⟩) n4 _
  · exact heap_set hR6.out 3 _
end HH
end Go.Proofs.YtclmjmfcggkpaaaGreatDoor
