import Derived.Test.YtclmjmfcggkpaaaGreatDoorQ27
import Derived.Test.YtclmjmfcggkpaaaGreatDoorQ28
import Derived.Lib.ParseIntB
import Derived.Lib.ItoaLen
set_option linter.unusedVariables false
set_option linter.unusedSimpArgs false
namespace Go.Proofs.YtclmjmfcggkpaaaGreatDoor
open Go.RowKit Go.Proofs.YtclmjmfcggkpaaaGreatDoorW.PrintWords Go.Proofs.YtclmjmfcggkpaaaGreatDoorW.PrintLast Go.Proofs.YtclmjmfcggkpaaaGreatDoorW.PrintMore
open PX
open Go.ChangeMaps (setBlock)
namespace HH
open H
/-! ### An encoder with headers -/
theorem dec_head (u : Nat) : ∃ c r, Lib.decDigits u = c :: r ∧ 48 ≤ c.toNat ∧ c.toNat ≤ 57 := by
 induction u using Nat.strongRecOn with
 | _ u ih =>
   by_cases h : u < 10
   ·refine ⟨_, _, Lib.decDigits_one h, ?_, ?_⟩ <;> (simp; omega)
   ·obtain ⟨c, r, h1, h2, h3⟩ := ih (u / 10) (by omega)
    exact ⟨c, r ++ [UInt8.ofNat (48 + u % 10)], by rw [Lib.decDigits, dif_neg h, h1]; rfl, h2, h3⟩
theorem decS_pos (n : Int) (h0 : 0 ≤ n) : 0 < (decS n).size := by
 obtain ⟨u, rfl⟩ := Int.eq_ofNat_of_zero_le h0
 show 0 < (Lib.itoa (u : Int)).toArray.size
 rw [Lib.itoa_nonneg]
 obtain ⟨c, r, hc, _⟩ := dec_head u
 rw [hc]; simp
/-- The encoder eb: path p, raw path r, a query's map, a header map (made from C on). -/
def EncK (C eb qm mh : Nat) (p r : List Int) (w : World) : Prop :=
 ∃ (g g2 : Nat) (z1 z2 : List Int), w.heap[eb]? = some (.cells #[.slice (some ⟨g, 0, none⟩) p.length z1.length, .slice (some ⟨g2, 0, none⟩) r.length z2.length, .slice none 0 0, .map (some qm), .map (some mh)] 131 (0, 0)) ∧
  BAt w g z1 ∧ p.length ≤ z1.length ∧ z1.take p.length = p ∧ z1.length ≤ 9223372036854775807 ∧ BAt w g2 z2 ∧ r.length ≤ z2.length ∧ z2.take r.length = r ∧ z2.length ≤ 9223372036854775807 ∧ g < C ∧ g2 < C ∧ g ≠ g2 ∧ qm < C ∧ C ≤ eb ∧ w.heap[qm]? = some (.map #[] 0)
theorem EncK.fr {C eb qm mh : Nat} {p r : List Int} {w w' : World} {S : Nat → Prop} (h : EncK C eb qm mh p r w) (hf : Fr S w w') (hS : ∀ k, S k → C ≤ k ∧ k ≠ eb) : EncK C eb qm mh p r w' := by
 obtain ⟨g, g2, z1, z2, h1, h2, h3, h4, h5, h6, h7, h8, h9, h10, h11, h12, h13, h14, h15⟩ := h
 exact ⟨g, g2, z1, z2, hf.heap h1 (fun e => (hS _ e).2 rfl), h2.fr hf (fun e => by have := (hS _ e).1; omega), h3, h4, h5, h6.fr hf (fun e => by have := (hS _ e).1; omega), h7, h8, h9, h10, h11, h12, h13, h14, hf.heap h15 (fun e => by have := (hS _ e).1; omega)⟩
theorem EncK.calm {C eb qm mh : Nat} {p r : List Int} {w w' : World} (h : EncK C eb qm mh p r w) (hb : Below w.heap.size w w') : EncK C eb qm mh p r w' :=
 h.fr (Fr.of_below (S := fun _ => False) hb) (fun _ h => h.elim)
theorem EncK.hdr {C eb qm mh : Nat} {p r : List Int} {w : World} (h : EncK C eb qm mh p r w) : w.cell? ⟨eb, 4, none⟩ = some (.map (some mh)) := by
 obtain ⟨g, g2, z1, z2, h1, _⟩ := h
 rw [cell_at h1]; simp
theorem EncK.lt {C eb qm mh : Nat} {p r : List Int} {w : World} (h : EncK C eb qm mh p r w) : eb < w.heap.size ∧ C ≤ eb := by
 obtain ⟨g, g2, z1, z2, h1, h2, h3, h4, h5, h6, h7, h8, h9, h10, h11, h12, h13, h14, h15⟩ := h
 exact ⟨lt_of h1, h14⟩
set_option maxHeartbeats 2000000 in
set_option maxRecDepth 100000 in
theorem newRawH_call {B m clock : Nat} {X : Nat → Prop} {rs : List MR} (path raw : ByteArray) (w : World) (H : HMr B X m rs clock w) (hx : ∀ r ∈ rs, r.xs.length ≤ 1000000) (hp : path.size ≤ 140737488355328) (hr : raw.size ≤ 140737488355328) :
 Calls Tryz.prog 69 #[.string path, .string raw, .string ⟨#[]⟩, .map (some m)] w fun e w' =>
  ∃ C eb qm mh, e = .returned (.tuple #[.pointer (some ⟨eb, 0, none⟩), .nilIface]) ∧ EncK C eb qm mh (bytesOf path) (bytesOf raw) w' ∧ HMq C (fun k => k = eb) mh rs.length (lk (rs.map MR.hd)) w' ∧ w.heap.size ≤ C ∧ Below w.heap.size w w' := by
 have hcv := fun (w : World) (s : ByteArray) => Lib.run_convert_string_bytes (P := Tryz.prog) w 9 104 5 s (u := .string) Tryz.underlying9 Tryz.underlying104 Tryz.underlying5
 go_enter Tryz.func69, Tryz.ntmps69
 go_wp2_with fail
 refine (pq_call _).mono ?_
 rintro e w1 ⟨rfl, h1, h2⟩
 go_wp2_with fail
 have hb1 := bytesWorld_below w1 path
 have ha1 := BAt.of_string w1 path
 rw [← strZs_length w1 path]
 have ht1 := strZs_take w1 path
 have hc1 : (strZs w1 path).length ≤ 9223372036854775807 := by rw [strZs_length]; have := grownCap_le_maxLen w1 path.size 0 5 (by unfold maxLen; omega); unfold maxLen at this; omega
 generalize strZs w1 path = z1 at *
 generalize hw2 : Lib.bytesWorld w1 5 path = w2 at *
 have hb2 := bytesWorld_below w2 raw
 have ha2 := BAt.of_string w2 raw
 rw [← strZs_length w2 raw]
 have ht2 := strZs_take w2 raw
 have hc2 : (strZs w2 raw).length ≤ 9223372036854775807 := by rw [strZs_length]; have := grownCap_le_maxLen w2 raw.size 0 5 (by unfold maxLen; omega); unfold maxLen at this; omega
 generalize strZs w2 raw = z2 at *
 generalize hw3 : Lib.bytesWorld w2 5 raw = w3 at *
 have F1 : Fr (fun _ => False) w w1 := Fr.of_below h2
 have F2 : Fr (fun _ => False) w1 w2 := Fr.of_below hb1
 have F3 : Fr (fun _ => False) w2 w3 := Fr.of_below hb2
 have F13 := (F1.trans F2 (fun _ _ h => h)).trans F3 (fun _ _ h => h)
 refine (clone_call w3 (H.fr F13 (fun h => h) (fun _ _ _ _ h => h)) hx (fun _ => False) (fun _ h => h.elim)).mono ?_
 rintro e w4 ⟨rfl, h4, h5⟩
 have F4 : Fr (fun _ => False) w3 w4 := Fr.of_below h5
 go_wp2
 go_ret2
 have F5 : Fr (fun _ => False) w4 (w4.alloc (.cells #[.slice (some ⟨w1.heap.size, 0, none⟩) path.size z1.length, .slice (some ⟨w2.heap.size, 0, none⟩) raw.size z2.length, .slice none 0 0, .map (some w.heap.size), .map (some w3.heap.size)] 131)) := Fr.alloc (Fr.refl _ _) _
 have F45 := F4.trans F5 (fun _ _ h => h)
 have F15 := F13.trans F45 (fun _ _ h => h)
 have hlen : ∀ s : ByteArray, s.size = (bytesOf s).length := fun s => (bytesOf_length s).symm
 have hle1 : path.size ≤ z1.length := by
  have := congrArg List.length ht1
  simp [bytesOf_length] at this; omega
 have hle2 : raw.size ≤ z2.length := by
  have := congrArg List.length ht2
  simp [bytesOf_length] at this; omega
 have hs1 := F1.size
 have hlt1 := ha1.lt
 have hw1 := ha1.lt
 have hw2 := ha2.lt
 have hs13 := F13.size
 have hs4 := F4.size
 have hs2 := F2.size
 have hs3 := F3.size
 have q1 : bytesOf path = bytesOf path := rfl
 have h4' := (h4.re (X' := fun k => k = w4.heap.size) (fun k hk => .inr (by omega))).calm (below_alloc (Below.refl w4.heap.size w4) (.cells #[.slice (some ⟨w1.heap.size, 0, none⟩) path.size z1.length, .slice (some ⟨w2.heap.size, 0, none⟩) raw.size z2.length, .slice none 0 0, .map (some w.heap.size), .map (some w3.heap.size)] 131))
 have hq1 := ((F2.trans F3 (fun _ _ h => h)).trans F45 (fun _ _ h => h)).heap h1 (fun h => h)
 refine ⟨w3.heap.size, w4.heap.size, w.heap.size, w3.heap.size, rfl, ⟨w1.heap.size, w2.heap.size, z1, z2, ?_, (ha1.fr F3 (fun h => h)).fr F45 (fun h => h), by rw [bytesOf_length]; exact hle1, by rw [bytesOf_length]; exact ht1, hc1, ha2.fr F45 (fun h => h), by rw [bytesOf_length]; exact hle2, by rw [bytesOf_length]; exact ht2, hc2, by omega, by omega, by omega, by have := lt_of h1; omega, by omega, hq1⟩, h4', hs13, F15.below (Nat.le_refl _) (fun _ _ h => h.elim)⟩
 rw [bytesOf_length, bytesOf_length]
 exact heap_new _ _
set_option maxHeartbeats 1000000 in
set_option maxRecDepth 100000 in
theorem newH_call {B m clock : Nat} {X : Nat → Prop} {rs : List MR} (path : ByteArray) (w : World) (H : HMr B X m rs clock w) (hx : ∀ r ∈ rs, r.xs.length ≤ 1000000) (hp : path.size ≤ 140737488355328) :
 Calls Tryz.prog 45 #[.string path, .string ⟨#[]⟩, .map (some m)] w fun e w' =>
  ∃ C eb qm mh, e = .returned (.tuple #[.pointer (some ⟨eb, 0, none⟩), .nilIface]) ∧ EncK C eb qm mh (bytesOf path) (bytesOf path) w' ∧ HMq C (fun k => k = eb) mh rs.length (lk (rs.map MR.hd)) w' ∧ w.heap.size ≤ C ∧ Below w.heap.size w w' := by
 go_enter Tryz.func45, Tryz.ntmps45
 go_wp2_with fail
 refine (newRawH_call path path w H hx hp hp).mono ?_
 rintro e w1 ⟨C, eb, qm, mh, rfl, h⟩
 go_wp2
 go_ret2
 exact ⟨C, eb, qm, mh, rfl, h⟩
end HH
end Go.Proofs.YtclmjmfcggkpaaaGreatDoor
set_option linter.unusedVariables false
set_option linter.unusedSimpArgs false
namespace Go.Proofs.YtclmjmfcggkpaaaGreatDoor
open Go.RowKit Go.Proofs.YtclmjmfcggkpaaaGreatDoorW.PrintWords Go.Proofs.YtclmjmfcggkpaaaGreatDoorW.PrintLast Go.Proofs.YtclmjmfcggkpaaaGreatDoorW.PrintMore
open PX
open Go.ChangeMaps (setBlock)
namespace HH
open H
/-! ### Encoder.Encode with headers -/
def CL : ByteArray := ⟨#[67, 111, 110, 116, 101, 110, 116, 45, 76, 101, 110, 103, 116, 104]⟩
theorem HMq.frX {B m n : Nat} {X S : Nat → Prop} {T : ByteArray → Option (List ByteArray)} {w w' : World} (h : HMq B X m n T w) (hf : Fr S w w') (hS : ∀ k, S k → X k) : HMq B X m n T w' := by
 obtain ⟨rs, clock, h1, h2, h3⟩ := h.out
 exact ⟨rs, clock, h1.fr hf (fun e => h1.neN (hS _ e)) (fun r hr k hk e => (h1.rowM hr hk).2.2.1 (hS _ e)), h2, h3⟩
set_option maxHeartbeats 2000000 in
set_option maxRecDepth 100000 in
theorem encode_hdr {C eb qm hm n : Nat} {X : Nat → Prop} {T : ByteArray → Option (List ByteArray)} {p r : List Int} {w : World} (he : EncK C eb qm hm p r w) (hh : HMq C X hm n T w) (hcl : T CL = none)
 (rb ub : Nat) (hXu : X ub) (hXr : X rb) (hXe : X eb) (R0 U0 : Array Value) (hR0 : w.heap[rb]? = some (.cells R0 91 (0, 0))) (hU0 : w.heap[ub]? = some (.cells U0 89 (0, 0))) (hr1 : R0[1]? = some (.pointer (some ⟨ub, 0, none⟩)))
 (r3 r4 u4 u6 u7 : Value) (hr3 : R0[3]? = some r3) (hr4 : R0[4]? = some r4) (hu4 : U0[4]? = some u4) (hu6 : U0[6]? = some u6) (hu7 : U0[7]? = some u7) :
 Calls Tryz.prog 47 #[.pointer (some ⟨eb, 0, none⟩), .pointer (some ⟨rb, 0, none⟩)] w fun e w' =>
  e = .returned (.tuple #[.pointer (some ⟨rb, 0, none⟩), .nilIface]) ∧ w'.heap[ub]? = some (.cells (((U0.setIfInBounds 4 (.string (strOfNums p))).setIfInBounds 7 (.string (strOfNums r))).setIfInBounds 6 (.string ⟨#[]⟩)) 89 (0, 0)) ∧
   w'.heap[rb]? = some (.cells (R0.setIfInBounds 3 (.map (some hm))) 91 (0, 0)) ∧ HMq C X hm n T w' ∧ Fr (fun k => k = ub ∨ k = rb) w w' := by
 obtain ⟨g, g2, z1, z2, hE, hz1, hl1, ht1, hm1, hz2, hl2, ht2, hm2, hgC, hg2C, hg, hqC, hCe, hq⟩ := he
 have hcp : ∀ w', BAt w' g z1 → (Go.convert 104 9 (.slice (some ⟨g, 0, none⟩) p.length z1.length)).run Tryz.prog w' = .ok (.string (strOfNums p)) w' := fun w' h => by
  have := h.str (P := Tryz.prog) (n := p.length) (c := z1.length) hl1 Tryz.underlying104 Tryz.underlying5 Tryz.underlying9
  rw [ht1] at this
  exact this
 have hcr : ∀ w', BAt w' g2 z2 → (Go.convert 104 9 (.slice (some ⟨g2, 0, none⟩) r.length z2.length)).run Tryz.prog w' = .ok (.string (strOfNums r)) w' := fun w' h => by
  have := h.str (P := Tryz.prog) (n := r.length) (c := z2.length) hl2 Tryz.underlying104 Tryz.underlying5 Tryz.underlying9
  rw [ht2] at this
  exact this
 have n1 : ¬ g = ub := by rintro rfl; obtain ⟨_, h, _⟩ := hz1; rw [hU0] at h; simp at h
 have n2 : ¬ g2 = ub := by rintro rfl; obtain ⟨_, h, _⟩ := hz2; rw [hU0] at h; simp at h
 have n3 : ¬ ub = eb := by rintro rfl; rw [hU0] at hE; simp at hE
 have n4 : ¬ ub = rb := by rintro rfl; rw [hU0] at hR0; simp at hR0
 have c0 := cell_at hE 0; have c1 := cell_at hE 1
 have d1 := cell_at hR0 1; rw [hr1] at d1
 have v4 := cell_at hU0 4; have v7 := cell_at hU0 7; have f4 := free_of hU0 4; have f7 := free_of hU0 7; rw [hu4] at v4; rw [hu7] at v7
 simp at c0 c1
 have w4 := fun X => cell_at (heap_set hU0 7 X) 4; have w7 := fun X => cell_at (heap_set hU0 4 X) 7
 have x4 := fun X => free_of (heap_set hU0 7 X) 4; have x7 := fun X => free_of (heap_set hU0 4 X) 7
 simp [hu4, hu7] at w4 w7 x4 x7
 have hAE := Aside0.mk hE; have hAR := Aside0.mk hR0; have hAU := Aside0.mk hU0; have hAq := Aside0.mk hq; have hAh := Aside0.mk hh
 clear hE hR0 hU0 hq hh ht1 ht2
 go_enter Tryz.func47, Tryz.ntmps47
 go_wp2_with fail
 go_region_held3 (fun w' => w'.cell? ⟨rb, 1, none⟩ = some (.pointer (some ⟨ub, 0, none⟩)) ∧ w'.cell? ⟨eb, 0, none⟩ = some (.slice (some ⟨g, 0, none⟩) p.length z1.length) ∧ w'.cell? ⟨eb, 1, none⟩ = some (.slice (some ⟨g2, 0, none⟩) r.length z2.length) ∧ BAt w' g z1 ∧ BAt w' g2 z2) (simp [*, World.cell?_alloc_some, World.cell?_setCell_far, BAt.setFar, BAt.drewEq]) (fail)
 have hU1 := heap_set (heap_set hAU.out 4 (.string (strOfNums p))) 7 (.string (strOfNums r))
 have hF1 : Fr (fun k => k = ub) w ((w.setCell ⟨ub, 4, none⟩ (.string (strOfNums p))).setCell ⟨ub, 7, none⟩ (.string (strOfNums r))) := ((Fr.refl (fun k => k = ub) w).setCell (p := ⟨ub, 4, none⟩) (.inl rfl) _).setCell (p := ⟨ub, 7, none⟩) (.inl rfl) _
 have hE1 := hF1.heap hAE.out (fun h => n3 h.symm)
 have hR1 := hF1.heap hAR.out (fun h => n4 h.symm)
 have hq1 := hF1.heap hAq.out (fun h => by subst h; have := hAq.out; rw [hAU.out] at this; simp at this)
 have hh1 := hAh.out.frX (hF1) (fun k e => by subst e; exact hXu)
 clear v4 v7 f4 f7 w4 w7 x4 x7 c0 c1 d1
 change Exit.then _ _ _ _ ((w.setCell ⟨ub, 4, none⟩ (.string (strOfNums p))).setCell ⟨ub, 7, none⟩ (.string (strOfNums r))).drew
 generalize (w.setCell ⟨ub, 4, none⟩ (.string (strOfNums p))).setCell ⟨ub, 7, none⟩ (.string (strOfNums r)) = w1 at *
 have c3 := cell_at hE1 3; have c4 := cell_at hE1 4; simp at c3 c4
 have d1 := cell_at hR1 1; rw [hr1] at d1
 have v6 := cell_at hU1 6; have f6 := free_of hU1 6
 simp [hu6] at v6
 have hAE1 := Aside0.mk hE1; have hAR1 := Aside0.mk hR1; have hAU1 := Aside0.mk hU1; have hAq1 := Aside0.mk hq1; have hAh1 := Aside0.mk hh1
 have nq : ¬ ub = qm := by rintro rfl; have := hAq.out; rw [hAU.out] at this; simp at this
 have hqs : ∀ w' : World, ∀ X, (w'.setCell ⟨ub, 6, none⟩ X).heap[qm]? = w'.heap[qm]? := fun w' X => Below.heap_setCell w' ⟨ub, 6, none⟩ X qm (fun h => nq h.symm)
 have hqd : ∀ w' : World, w'.drew.heap = w'.heap := fun _ => rfl
 clear hE1 hR1 hU1 hh1
 go_wp2_with fail
 go_region_held3 (fun w' => w'.cell? ⟨rb, 1, none⟩ = some (.pointer (some ⟨ub, 0, none⟩)) ∧ w'.cell? ⟨eb, 3, none⟩ = some (.map (some qm)) ∧ w'.heap[qm]? = some (.map #[] 0)) (simp [*, World.cell?_alloc_some, World.cell?_setCell_far, hqs, hqd]) ((go_at_call 81; refine (qenc_nil qm _ (by first | assumption | exact hq1)).mono ?_; rintro e w2 ⟨rfl, rfl⟩))
 have hF2 : Fr (fun k => k = ub) w1 (w1.setCell ⟨ub, 6, none⟩ (.string ⟨#[]⟩)) := (Fr.refl (fun k => k = ub) w1).setCell (p := ⟨ub, 6, none⟩) (.inl rfl) _
 have hU2 := heap_set hAU1.out 6 (.string ⟨#[]⟩)
 have hE2 := hF2.heap hAE1.out (fun h => n3 h.symm)
 have hR2 := hF2.heap hAR1.out (fun h => n4 h.symm)
 have hh2 := hAh1.out.frX (hF2) (fun k e => by subst e; exact hXu)
 clear v6 f6 c3 c4 d1
 change Exit.then _ _ _ _ (w1.setCell ⟨ub, 6, none⟩ (.string ⟨#[]⟩)).drew.drew
 generalize w1.setCell ⟨ub, 6, none⟩ (.string ⟨#[]⟩) = w2 at *
 have c4 := cell_at hE2 4; simp at c4
 have v3 := cell_at hR2 3; have f3 := free_of hR2 3; simp [hr3] at v3
 have hAE2 := Aside0.mk hE2; have hAR2 := Aside0.mk hR2; have hAU2 := Aside0.mk hU2; have hAh2 := Aside0.mk hh2
 clear hE2 hR2 hU2 hh2
 go_wp2_with fail
 refine (get_none (w := w2.drew.drew) (hAh2.out.frX ((Fr.refl (fun _ => False) w2).drew.drew) (fun _ h => h.elim)) CL hcl).mono ?_
 rintro e w3 ⟨rfl, rfl⟩
 go_wp2
 go_ret2
 have hF3 : Fr (fun k => k = ub ∨ k = rb) w (w2.drew.drew.setCell ⟨rb, 3, none⟩ (.map (some hm))) := (((hF1.trans hF2 (fun _ _ h => h)).mono (fun _ _ h => .inl h)).setCell (p := ⟨rb, 3, none⟩) (.inl (.inr rfl)) _).drew.drew
 refine ⟨rfl, ?_, ?_, hAh.out.frX hF3 (fun k e => by rcases e with e | e <;> subst e <;> assumption), hF3⟩
 ·exact heap_far hAU2.out (p := ⟨rb, 3, none⟩) n4 _
 ·exact heap_set hAR2.out 3 _
end HH
end Go.Proofs.YtclmjmfcggkpaaaGreatDoor
