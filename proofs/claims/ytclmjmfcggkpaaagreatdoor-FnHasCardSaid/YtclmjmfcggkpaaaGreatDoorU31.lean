import Derived.Test.YtclmjmfcggkpaaaGreatDoorU17
import Derived.Test.YtclmjmfcggkpaaaGreatDoorU13
import Derived.WideLaws
import Derived.Deep.RegionHeld3
set_option linter.unusedVariables false
set_option linter.unusedSimpArgs false
namespace Go.Proofs.YtclmjmfcggkpaaaGreatDoor
open Go.RowKit Go.Proofs.YtclmjmfcggkpaaaGreatDoorW.PrintWords Go.Proofs.YtclmjmfcggkpaaaGreatDoorW.PrintLast Go.Proofs.YtclmjmfcggkpaaaGreatDoorW.PrintMore
namespace H
set_option maxHeartbeats 1000000 in
set_option maxRecDepth 100000 in
theorem newRaw_call (path raw : ByteArray) (m : Nat) (w : World) (hm : w.heap[m]? = some (.map #[] 0)) (hp : path.size ≤ 140737488355328) (hr : raw.size ≤ 140737488355328) :
 Calls Tryz.prog 69 #[.string path, .string raw, .string ⟨#[]⟩, .map (some m)] w fun e w' =>
  ∃ eb qm hm', e = .returned (.tuple #[.pointer (some ⟨eb, 0, none⟩), .nilIface]) ∧ EncS w.heap.size eb (.map (some qm)) (.map (some hm')) (bytesOf path) (bytesOf raw) w' ∧ w'.heap[qm]? = some (.map #[] 0) ∧ w'.heap[hm']? = some (.map #[] 0) ∧ Below w.heap.size w w' := by
 have hcv := fun (w : World) (s : ByteArray) => Lib.run_convert_string_bytes (P := Tryz.prog) w 9 104 5 s (u := .string) Tryz.underlying9 Tryz.underlying104 Tryz.underlying5
 go_enter Tryz.func69, Tryz.ntmps69
 go_wp2_with fail
 refine (pq_call _).mono ?_
 rintro e w1 ⟨rfl, h1, h2⟩
 go_wp2_with fail
 have hb1 := bytesWorld_below w1 path
 have ha1 := BAt.of_string w1 path
 rw [← strZs_length w1 path]
 have ht1 := strZs_take w1 path
 have hc1 : (strZs w1 path).length ≤ 9223372036854775807 := by rw [strZs_length]; have := grownCap_le_maxLen w1 path.size 0 5 (by unfold maxLen; omega); unfold maxLen at this; omega
 generalize strZs w1 path = z1 at *
 generalize hw2 : Lib.bytesWorld w1 5 path = w2 at *
 have hb2 := bytesWorld_below w2 raw
 have ha2 := BAt.of_string w2 raw
 rw [← strZs_length w2 raw]
 have ht2 := strZs_take w2 raw
 have hc2 : (strZs w2 raw).length ≤ 9223372036854775807 := by rw [strZs_length]; have := grownCap_le_maxLen w2 raw.size 0 5 (by unfold maxLen; omega); unfold maxLen at this; omega
 generalize strZs w2 raw = z2 at *
 generalize hw3 : Lib.bytesWorld w2 5 raw = w3 at *
 have F1 : Fr (fun _ => False) w w1 := Fr.of_below h2
 have F2 : Fr (fun _ => False) w1 w2 := Fr.of_below hb1
 have F3 : Fr (fun _ => False) w2 w3 := Fr.of_below hb2
 have F13 := (F1.trans F2 (fun _ _ h => h)).trans F3 (fun _ _ h => h)
 refine (clone_nil m w3 (F13.heap hm (fun h => h))).mono ?_
 rintro e w4 ⟨rfl, h4, h5⟩
 have F4 : Fr (fun _ => False) w3 w4 := Fr.of_below h5
 go_wp2
 go_ret2
 have F5 : Fr (fun _ => False) w4 (w4.alloc (.cells #[.slice (some ⟨w1.heap.size, 0, none⟩) path.size z1.length, .slice (some ⟨w2.heap.size, 0, none⟩) raw.size z2.length, .slice none 0 0, .map (some w.heap.size), .map (some w3.heap.size)] 131)) := Fr.alloc (Fr.refl _ _) _
 have F45 := F4.trans F5 (fun _ _ h => h)
 have F15 := F13.trans F45 (fun _ _ h => h)
 have hlen : ∀ s : ByteArray, s.size = (bytesOf s).length := fun s => (bytesOf_length s).symm
 have hle1 : path.size ≤ z1.length := by
  have := congrArg List.length ht1
  simp [bytesOf_length] at this; omega
 have hle2 : raw.size ≤ z2.length := by
  have := congrArg List.length ht2
  simp [bytesOf_length] at this; omega
 have hs1 := F1.size
 have hlt1 := ha1.lt
 refine ⟨w4.heap.size, w.heap.size, w3.heap.size, rfl, ⟨_, _, _, w1.heap.size, w2.heap.size, 0, [], heap_new _ _, ?_, ?_, ?_, ?_, ?_, own_nil _ _ _ _, F15.size, ?_⟩, ?_, ?_, ?_⟩
 ·exact ⟨z1, by rw [bytesOf_length], (ha1.fr F3 (fun h => h)).fr F45 (fun h => h), by rw [bytesOf_length]; exact hle1, hc1, by rw [bytesOf_length]; exact ht1, hs1⟩
 ·exact ⟨z2, by rw [bytesOf_length], ha2.fr F45 (fun h => h), by rw [bytesOf_length]; exact hle2, hc2, by rw [bytesOf_length]; exact ht2, by have := F2.size; omega⟩
 ·omega
 ·simp [Value.ownBlock]
 ·simp [Value.ownBlock]
 ·have := F13.size; have := F4.size; omega
 ·exact ((F2.trans F3 (fun _ _ h => h)).trans F45 (fun _ _ h => h)).heap h1 (fun h => h)
 ·exact F5.heap h4 (fun h => h)
 ·exact F15.below (Nat.le_refl _) (fun _ _ h => h.elim)
set_option maxHeartbeats 1000000 in
set_option maxRecDepth 100000 in
theorem new_call (path : ByteArray) (m : Nat) (w : World) (hm : w.heap[m]? = some (.map #[] 0)) (hp : path.size ≤ 140737488355328) :
 Calls Tryz.prog 45 #[.string path, .string ⟨#[]⟩, .map (some m)] w fun e w' =>
  ∃ eb qm hm', e = .returned (.tuple #[.pointer (some ⟨eb, 0, none⟩), .nilIface]) ∧ EncS w.heap.size eb (.map (some qm)) (.map (some hm')) (bytesOf path) (bytesOf path) w' ∧ w'.heap[qm]? = some (.map #[] 0) ∧ w'.heap[hm']? = some (.map #[] 0) ∧ Below w.heap.size w w' := by
 go_enter Tryz.func45, Tryz.ntmps45
 go_wp2_with fail
 refine (newRaw_call path path m w hm hp hp).mono ?_
 rintro e w1 ⟨eb, qm, hm', rfl, h⟩
 go_wp2
 go_ret2
 exact ⟨eb, qm, hm', rfl, h⟩
end H
end Go.Proofs.YtclmjmfcggkpaaaGreatDoor
namespace Go.Proofs.YtclmjmfcggkpaaaGreatDoor
open Go.RowKit Go.Proofs.YtclmjmfcggkpaaaGreatDoorW.PrintWords Go.Proofs.YtclmjmfcggkpaaaGreatDoorW.PrintLast Go.Proofs.YtclmjmfcggkpaaaGreatDoorW.PrintMore
namespace H
theorem lookup_empty (w : World) (m : Nat) (c : Nat) (key : ByteArray) (hm : w.heap[m]? = some (.map #[] c)) :
 (Instr.lookup 76 (.map (some m)) (.string key) false).run Tryz.prog w = .ok (.slice none 0 0) w := by
 have hu := Tryz.underlying76
 have hu9 := Tryz.underlying9
 have hu67 := Tryz.underlying67
 have hi : (Tryz.prog.info? 67).map (·.zero) = some (some (.slice none 0 0)) := by kernel_rfl
 obtain ⟨i, hi, hz⟩ := Option.map_eq_some_iff.1 hi
 have hck := Go.MapKept.run_checkKey (P := Tryz.prog) (w := w) (k := .string key) hu9 (by constructor) true 9999
 simp [Instr.lookup, run_underlying hu, run_underlying hu9, Sem.run_bind, Result.andThen, Go.MapKept.run_getObj_map hm, Instr.findKey, Instr.findNow, zeroValue, typeInfo, hi, hz, hck]
 try go_goals
set_option maxRecDepth 100000 in
theorem qenc_nil (m : Nat) (w : World) (hm : w.heap[m]? = some (.map #[] 0)) : Calls Tryz.prog 81 #[.map (some m)] w fun e w' => e = .returned (.string ⟨#[]⟩) ∧ w' = w := by
 have hl := fun ty => run_len_map (P := Tryz.prog) (w := w) 119 ty m #[] 0 (by kernel_rfl) hm
 go_enter Tryz.func81, Tryz.ntmps81
 go_wp2
 go_ret
 exact ⟨rfl, rfl⟩
set_option maxRecDepth 100000 in
theorem hget_nil (m : Nat) (key : ByteArray) (w : World) (hm : w.heap[m]? = some (.map #[] 0)) : Calls Tryz.prog 82 #[.map (some m), .string key] w fun e w' => e = .returned (.string ⟨#[]⟩) ∧ w' = w := by
 have hl := lookup_empty w m 0 key hm
 go_enter Tryz.func82, Tryz.ntmps82
 go_wp2
 go_ret
 exact ⟨rfl, rfl⟩
end H
end Go.Proofs.YtclmjmfcggkpaaaGreatDoor
namespace Go.Proofs.YtclmjmfcggkpaaaGreatDoor
open Go.RowKit Go.Proofs.YtclmjmfcggkpaaaGreatDoorW.PrintWords Go.Proofs.YtclmjmfcggkpaaaGreatDoorW.PrintLast Go.Proofs.YtclmjmfcggkpaaaGreatDoorW.PrintMore
namespace H
theorem BAt.setFar (w : World) (g : Nat) (zs : List Int) (p : Addr) (u : Value) (h : ¬ g = p.block) : BAt (w.setCell p u) g zs = BAt w g zs := by
 simp only [BAt, Below.heap_setCell w p u g h]
theorem BAt.drewEq (w : World) (g : Nat) (zs : List Int) : BAt w.drew g zs = BAt w g zs := rfl
set_option maxHeartbeats 1000000 in
set_option maxRecDepth 100000 in
theorem encode_nil {B eb : Nat} {qm hm : Nat} {p r : List Int} {w : World} (he : EncS B eb (.map (some qm)) (.map (some hm)) p r w) (hq : w.heap[qm]? = some (.map #[] 0)) (hh : w.heap[hm]? = some (.map #[] 0))
 (rb ub : Nat) (R0 U0 : Array Value) (hR0 : w.heap[rb]? = some (.cells R0 91 (0, 0))) (hU0 : w.heap[ub]? = some (.cells U0 89 (0, 0))) (hr1 : R0[1]? = some (.pointer (some ⟨ub, 0, none⟩)))
 (r3 r4 u4 u6 u7 : Value) (hr3 : R0[3]? = some r3) (hr4 : R0[4]? = some r4) (hu4 : U0[4]? = some u4) (hu6 : U0[6]? = some u6) (hu7 : U0[7]? = some u7) :
 Calls Tryz.prog 47 #[.pointer (some ⟨eb, 0, none⟩), .pointer (some ⟨rb, 0, none⟩)] w fun e w' =>
  e = .returned (.tuple #[.pointer (some ⟨rb, 0, none⟩), .nilIface]) ∧ w'.heap[ub]? = some (.cells (((U0.setIfInBounds 4 (.string (strOfNums p))).setIfInBounds 7 (.string (strOfNums r))).setIfInBounds 6 (.string ⟨#[]⟩)) 89 (0, 0)) ∧
   w'.heap[rb]? = some (.cells (R0.setIfInBounds 3 (.map (some hm))) 91 (0, 0)) ∧ Fr (fun k => k = ub ∨ k = rb) w w' := by
 obtain ⟨pv, rv, vb, g, g2, nb, xb, hE, ⟨z1, rfl, hz1, hl1, hm1, ht1, hB1⟩, ⟨z2, rfl, hz2, hl2, hm2, ht2, hB2⟩, hg, hn1, hn2, ho, hB, hBe⟩ := he
 have hcp : ∀ w', BAt w' g z1 → (Go.convert 104 9 (.slice (some ⟨g, 0, none⟩) p.length z1.length)).run Tryz.prog w' = .ok (.string (strOfNums p)) w' := fun w' h => by
  have := h.str (P := Tryz.prog) (n := p.length) (c := z1.length) hl1 Tryz.underlying104 Tryz.underlying5 Tryz.underlying9
  rw [ht1] at this
  exact this
 have hcr : ∀ w', BAt w' g2 z2 → (Go.convert 104 9 (.slice (some ⟨g2, 0, none⟩) r.length z2.length)).run Tryz.prog w' = .ok (.string (strOfNums r)) w' := fun w' h => by
  have := h.str (P := Tryz.prog) (n := r.length) (c := z2.length) hl2 Tryz.underlying104 Tryz.underlying5 Tryz.underlying9
  rw [ht2] at this
  exact this
 have n1 : ¬ g = ub := by rintro rfl; obtain ⟨_, h, _⟩ := hz1; rw [hU0] at h; simp at h
 have n2 : ¬ g2 = ub := by rintro rfl; obtain ⟨_, h, _⟩ := hz2; rw [hU0] at h; simp at h
 have n3 : ¬ ub = eb := by rintro rfl; rw [hU0] at hE; simp at hE
 have n4 : ¬ ub = rb := by rintro rfl; rw [hU0] at hR0; simp at hR0
 have c0 := cell_at hE 0; have c1 := cell_at hE 1
 have d1 := cell_at hR0 1; rw [hr1] at d1
 have v4 := cell_at hU0 4; have v7 := cell_at hU0 7; have f4 := free_of hU0 4; have f7 := free_of hU0 7; rw [hu4] at v4; rw [hu7] at v7
 simp at c0 c1
 have w4 := fun X => cell_at (heap_set hU0 7 X) 4; have w7 := fun X => cell_at (heap_set hU0 4 X) 7
 have x4 := fun X => free_of (heap_set hU0 7 X) 4; have x7 := fun X => free_of (heap_set hU0 4 X) 7
 simp [hu4, hu7] at w4 w7 x4 x7
 have hAE := Aside0.mk hE; have hAR := Aside0.mk hR0; have hAU := Aside0.mk hU0; have hAq := Aside0.mk hq; have hAh := Aside0.mk hh; have hAo := Aside0.mk ho
 clear hE hR0 hU0 hq hh ho ht1 ht2
 go_enter Tryz.func47, Tryz.ntmps47
 go_wp2_with fail
 go_region_held3 (fun w' => w'.cell? ⟨rb, 1, none⟩ = some (.pointer (some ⟨ub, 0, none⟩)) ∧ w'.cell? ⟨eb, 0, none⟩ = some (.slice (some ⟨g, 0, none⟩) p.length z1.length) ∧ w'.cell? ⟨eb, 1, none⟩ = some (.slice (some ⟨g2, 0, none⟩) r.length z2.length) ∧ BAt w' g z1 ∧ BAt w' g2 z2) (simp [*, World.cell?_alloc_some, World.cell?_setCell_far, BAt.setFar, BAt.drewEq]) (fail)
 have hU1 := heap_set (heap_set hAU.out 4 (.string (strOfNums p))) 7 (.string (strOfNums r))
 have hF1 : Fr (fun k => k = ub) w ((w.setCell ⟨ub, 4, none⟩ (.string (strOfNums p))).setCell ⟨ub, 7, none⟩ (.string (strOfNums r))) := ((Fr.refl (fun k => k = ub) w).setCell (p := ⟨ub, 4, none⟩) (.inl rfl) _).setCell (p := ⟨ub, 7, none⟩) (.inl rfl) _
 have hE1 := hF1.heap hAE.out (fun h => n3 h.symm)
 have hR1 := hF1.heap hAR.out (fun h => n4 h.symm)
 have hq1 := hF1.heap hAq.out (fun h => by subst h; have := hAq.out; rw [hAU.out] at this; simp at this)
 have hh1 := hF1.heap hAh.out (fun h => by subst h; have := hAh.out; rw [hAU.out] at this; simp at this)
 clear v4 v7 f4 f7 w4 w7 x4 x7 c0 c1 d1
 change Exit.then _ _ _ _ ((w.setCell ⟨ub, 4, none⟩ (.string (strOfNums p))).setCell ⟨ub, 7, none⟩ (.string (strOfNums r))).drew
 generalize (w.setCell ⟨ub, 4, none⟩ (.string (strOfNums p))).setCell ⟨ub, 7, none⟩ (.string (strOfNums r)) = w1 at *
 have c3 := cell_at hE1 3; have c4 := cell_at hE1 4; simp at c3 c4
 have d1 := cell_at hR1 1; rw [hr1] at d1
 have v6 := cell_at hU1 6; have f6 := free_of hU1 6
 simp [hu6] at v6
 have hAE1 := Aside0.mk hE1; have hAR1 := Aside0.mk hR1; have hAU1 := Aside0.mk hU1; have hAq1 := Aside0.mk hq1; have hAh1 := Aside0.mk hh1
 have nq : ¬ ub = qm := by rintro rfl; have := hAq.out; rw [hAU.out] at this; simp at this
 have hqs : ∀ w' : World, ∀ X, (w'.setCell ⟨ub, 6, none⟩ X).heap[qm]? = w'.heap[qm]? := fun w' X => Below.heap_setCell w' ⟨ub, 6, none⟩ X qm (fun h => nq h.symm)
 have hqd : ∀ w' : World, w'.drew.heap = w'.heap := fun _ => rfl
 clear hE1 hR1 hU1 hh1
 go_wp2_with fail
 go_region_held3 (fun w' => w'.cell? ⟨rb, 1, none⟩ = some (.pointer (some ⟨ub, 0, none⟩)) ∧ w'.cell? ⟨eb, 3, none⟩ = some (.map (some qm)) ∧ w'.heap[qm]? = some (.map #[] 0)) (simp [*, World.cell?_alloc_some, World.cell?_setCell_far, hqs, hqd]) ((go_at_call 81; refine (qenc_nil qm _ (by first | assumption | exact hq1)).mono ?_; rintro e w2 ⟨rfl, rfl⟩))
 have hF2 : Fr (fun k => k = ub) w1 (w1.setCell ⟨ub, 6, none⟩ (.string ⟨#[]⟩)) := (Fr.refl (fun k => k = ub) w1).setCell (p := ⟨ub, 6, none⟩) (.inl rfl) _
 have hU2 := heap_set hAU1.out 6 (.string ⟨#[]⟩)
 have hE2 := hF2.heap hAE1.out (fun h => n3 h.symm)
 have hR2 := hF2.heap hAR1.out (fun h => n4 h.symm)
 have hh2 := hF2.heap hAh1.out (fun h => by subst h; have := hAh.out; rw [hAU.out] at this; simp at this)
 clear v6 f6 c3 c4 d1
 change Exit.then _ _ _ _ (w1.setCell ⟨ub, 6, none⟩ (.string ⟨#[]⟩)).drew.drew
 generalize w1.setCell ⟨ub, 6, none⟩ (.string ⟨#[]⟩) = w2 at *
 have c4 := cell_at hE2 4; simp at c4
 have v3 := cell_at hR2 3; have f3 := free_of hR2 3; simp [hr3] at v3
 have hAE2 := Aside0.mk hE2; have hAR2 := Aside0.mk hR2; have hAU2 := Aside0.mk hU2; have hAh2 := Aside0.mk hh2
 clear hE2 hR2 hU2
 go_wp2_with fail
 refine (hget_nil hm _ w2.drew.drew hAh2.out).mono ?_
 rintro e w3 ⟨rfl, rfl⟩
 go_wp2
 go_ret2
 refine ⟨rfl, ?_, ?_, ?_⟩
 ·exact heap_far hAU2.out (p := ⟨rb, 3, none⟩) n4 _
 ·exact heap_set hAR2.out 3 _
 ·exact (((hF1.trans hF2 (fun _ _ h => h)).mono (fun _ _ h => .inl h)).setCell (p := ⟨rb, 3, none⟩) (.inl (.inr rfl)) _).drew.drew
end H
end Go.Proofs.YtclmjmfcggkpaaaGreatDoor
namespace Go.Proofs.YtclmjmfcggkpaaaGreatDoor
open Go.RowKit Go.Proofs.YtclmjmfcggkpaaaGreatDoorW.PrintWords Go.Proofs.YtclmjmfcggkpaaaGreatDoorW.PrintLast Go.Proofs.YtclmjmfcggkpaaaGreatDoorW.PrintMore
namespace H
set_option maxHeartbeats 400000 in
set_option maxRecDepth 100000 in
theorem sorted_nil (m : Nat) (w : World) (hm : w.heap[m]? = some (.map #[] 0)) :
 Calls Tryz.prog 49 #[.map (some m)] w fun e w' => e = .returned (.slice none 0 0) ∧ Below w.heap.size w w' := by
 have hr := run_range_map (P := Tryz.prog) w 76 _ _ m #[] 0 Tryz.underlying76 hm
 have hn := fun ty => next_empty w ty m 0 0 0 hm (Nat.le_refl _)
 go_enter Tryz.func49, Tryz.ntmps49
 go_wp2
 refine wp_loop_rounds 1 ?_
 rw [rounds_succ]
 go_wp2
 go_ret
 exact ⟨rfl, below_alloc (Below.refl _ _) _⟩
end H
end Go.Proofs.YtclmjmfcggkpaaaGreatDoor
namespace Go.Proofs.YtclmjmfcggkpaaaGreatDoor
open Go.RowKit Go.Proofs.YtclmjmfcggkpaaaGreatDoorW.PrintWords Go.Proofs.YtclmjmfcggkpaaaGreatDoorW.PrintLast Go.Proofs.YtclmjmfcggkpaaaGreatDoorW.PrintMore
open PX
namespace H
theorem EncS.geB {B eb : Nat} {q h : Value} {p r : List Int} {w : World} (he : EncS B eb q h p r w) : B ≤ eb := by
 obtain ⟨pv, rv, vb, g, g2, nb, xb, hE, hP, hR, hg, hn1, hn2, ho, hB, hBe⟩ := he
 exact hBe
/-- A world of the last statement of Bind. -/
structure GB (res hm : Nat) (w6 w' : World) : Prop where
 map : w'.heap[hm]? = some (.map #[] 0)
 tab : Tab w'
 row : ∃ cs : Array Value, cs.size = 6 ∧ w'.heap[res]? = some (.cells cs 33 (0, 0))
 fr : Fr (fun k => k = res) w6 w'
theorem GB.drew {res hm : Nat} {w6 w' : World} (h : GB res hm w6 w') : GB res hm w6 w'.drew := ⟨h.map, h.tab, h.row, h.fr.drew⟩
theorem GB.call {res hm : Nat} {w6 w' w'' : World} (h : GB res hm w6 w') (hb : Below w'.heap.size w' w'') : GB res hm w6 w'' := by
 have hf : Fr (fun _ => False) w' w'' := Fr.of_below hb
 obtain ⟨cs, h1, h2⟩ := h.row
 exact ⟨hf.heap h.map (fun h => h), h.tab.fr hf (fun h => h), ⟨cs, h1, hf.heap h2 (fun h => h)⟩, h.fr.trans hf (fun _ _ h => h.elim)⟩
theorem GB.set {res hm : Nat} {w6 w' : World} (h : GB res hm w6 w') (i : Nat) (v : Value) : GB res hm w6 (w'.setCell ⟨res, i, none⟩ v) := by
 obtain ⟨cs, h1, h2⟩ := h.row
 have hn : hm ≠ res := by rintro rfl; have := h.map; rw [h2] at this; simp at this
 have hn1 : ¬ (1 = res) := by
  rintro rfl
  have := h.tab 100 (by omega)
  rw [cell_at h2, Array.getElem?_eq_none (by omega)] at this
  exact absurd this (by simp)
 exact ⟨heap_far h.map hn v, h.tab.fr ((Fr.refl (fun k => k = res) w').setCell (p := ⟨res, i, none⟩) (.inl rfl) v) hn1, ⟨_, by simpa using h1, heap_set h2 i v⟩, h.fr.setCell (.inl rfl) v⟩
theorem GB.cells {res hm : Nat} {w6 w' : World} (h : GB res hm w6 w') : ∃ v0 v1 v2 v3 v4 v5, w'.heap[res]? = some (.cells #[v0, v1, v2, v3, v4, v5] 33 (0, 0)) := by
 obtain ⟨cs, h1, h2⟩ := h.row
 obtain ⟨l⟩ := cs
 match l, h1 with
 | [v0, v1, v2, v3, v4, v5], _ => exact ⟨v0, v1, v2, v3, v4, v5, h2⟩
def FS (x : S48) : Value := FV x.f0 x.f1 x.f2 x.f3 x.f4 x.f5
set_option maxHeartbeats 2000000 in
set_option maxRecDepth 100000 in
theorem bind_labels (path E : ByteArray) (fs : List S48) (A0 : Option Addr) (c0 : Nat) (P R : Nat → List Int) (w : World) (hT : Tab w) (hr0 : Kd.C k48 w A0 fs.length fs) (hc0 : fs.length ≤ c0) (hn : fs.length ≤ 2147483647)
 (hp : path.size ≤ 140737488355328) (hP0 : P 0 = bytesOf path) (hR0 : R 0 = bytesOf path)
 (hput : ∀ i, i < fs.length → ∀ B eb q h w', Below w.heap.size w w' → EncS B eb q h (P i) (R i) w' → Calls Tryz.prog 46 #[.pointer (some ⟨eb, 0, none⟩), FS (rd_T48 fs i)] w' (ModP B eb q h (P (i + 1)) (R (i + 1)) w'))
 (hep : ∀ b w', Tab w' → w'.cell? ⟨b, 4, none⟩ = some (.string (strOfNums (P fs.length))) → w'.cell? ⟨b, 7, none⟩ = some (.string (strOfNums (R fs.length))) → Calls Tryz.prog 48 #[.pointer (some ⟨b, 0, none⟩)] w' fun e w'' => e = .returned (.string E) ∧ Below w'.heap.size w' w'') :
 Calls Tryz.prog 18 #[.string path, .string ⟨#[]⟩, .slice none 0 0, .slice A0 fs.length c0] w fun e w' =>
  e = .returned (.tuple #[.agg #[.string (strOfNums (P fs.length)), .string (strOfNums (R fs.length)), .string E, .string ⟨#[]⟩, .slice none 0 0, .int .i64 0], .bool true]) ∧ Below w.heap.size w w' := by
 have hmm := @run_makeMap Tryz.prog
 have HT := Aside0.mk hT; have HR0 := Aside0.mk hr0; have HC0 := Aside0.mk hc0
 clear hT hr0 hc0
 replace hput := Aside0.mk hput; replace hep := Aside0.mk hep; replace hP0 := Aside0.mk hP0; replace hR0 := Aside0.mk hR0
 go_enter Tryz.func18, Tryz.ntmps18
 go_wp2_with fail
 refine wp_loop_rounds 1 ?_
 rw [rounds_succ]
 go_wp2_with fail
 have hW0 : ∀ o1 o2, Below w.heap.size w ((w.alloc o1).alloc o2) := fun o1 o2 => below_alloc (below_alloc (Below.refl _ _) _) _
 have hres := fun o1 o2 => heap_old (heap_new w o1) o2
 have hmap := fun o1 o2 => heap_new (w.alloc o1) o2
 simp only [World.size_alloc] at hmap
 have hb0 := hW0 (.cells #[.string ⟨#[]⟩, .string ⟨#[]⟩, .string ⟨#[]⟩, .string ⟨#[]⟩, .slice none 0 0, .int .i64 0] 33) (.map #[] 0)
 replace hres := hres (.cells #[.string ⟨#[]⟩, .string ⟨#[]⟩, .string ⟨#[]⟩, .string ⟨#[]⟩, .slice none 0 0, .int .i64 0] 33) (.map #[] 0)
 replace hmap := hmap (.cells #[.string ⟨#[]⟩, .string ⟨#[]⟩, .string ⟨#[]⟩, .string ⟨#[]⟩, .slice none 0 0, .int .i64 0] 33) (.map #[] 0)
 clear hW0
 generalize (w.alloc (.cells #[.string ⟨#[]⟩, .string ⟨#[]⟩, .string ⟨#[]⟩, .string ⟨#[]⟩, .slice none 0 0, .int .i64 0] 33)).alloc (.map #[] 0) = w0 at *
 refine (new_call path _ w0 hmap hp).mono ?_
 rintro e w1 ⟨eb, qm, hm, rfl, hE, hq, hh, hb1⟩
 have hHB := Aside0.mk hb0; have hHR := Aside0.mk hres; have hHE := Aside0.mk hE; have hHq := Aside0.mk hq; have hHh := Aside0.mk hh; have hHb1 := Aside0.mk hb1
 have hlt := lt_of hres
 clear hb0 hres hE hq hh hb1 hmap
 generalize hB : w0.heap.size = B at *
 go_wp2_with fail
 go_loopg [45] fs.length (fun g v45 w' => ∃ k : Nat, k ≤ fs.length ∧ v45 = .int .i64 k ∧ g = fs.length - k ∧ Aside0 (EncS B eb (.map (some qm)) (.map (some hm)) (P k) (R k) w') ∧ Aside0 (Fr (Er B eb w1) w1 w'))
 case atStart => exact ⟨0, Nat.zero_le _, rfl, by omega, ⟨by rw [hP0.out, hR0.out]; exact hHE.out⟩, ⟨Fr.refl _ _⟩⟩
 case round =>
  obtain ⟨k, hk, rfl, hg, HE, HF⟩ := hrel
  replace hg := Aside0.mk hg
  by_cases hlt2 : k < fs.length
  ·obtain ⟨ad, rfl, x0, x1, x2, x3, x4, x5⟩ := at_T48 HR0.out (k : Int) (by omega) (by omega)
   have hbw : Aside0 (Below w.heap.size w wr) := .mk (below_then hHB.out hHB.out.size (by
    have := hHb1.out
    have h3 := HF.out.below (B := B) (by rw [← hB]; rw [← hB] at this; exact this.size) (fun k _ h => by rcases h with h | h; rw [h]; exact hHE.out.geB; exact h.1)
    rw [hB]
    exact this.trans h3))
   replace x0 := (hbw.out.cell (World.block_lt_of_cell? w _ x0)).trans x0
   replace x1 := (hbw.out.cell (World.block_lt_of_cell? w _ x1)).trans x1
   replace x2 := (hbw.out.cell (World.block_lt_of_cell? w _ x2)).trans x2
   replace x3 := (hbw.out.cell (World.block_lt_of_cell? w _ x3)).trans x3
   replace x4 := (hbw.out.cell (World.block_lt_of_cell? w _ x4)).trans x4
   replace x5 := (hbw.out.cell (World.block_lt_of_cell? w _ x5)).trans x5
   simp only [Int.toNat_natCast] at x0 x1 x2 x3 x4 x5
   have hps := hput.out k hlt2
   generalize rd_T48 fs k = fk at *
   replace hps := Aside0.mk hps
   go_wp2_with (first | ((with_reducible refine gate_dst (N := 16) rfl ?_); refine box_event ?hg (N := 16) ?hd (cs := #[.int .i64 0, .string (⟨#[]⟩ : ByteArray), .string (⟨#[]⟩ : ByteArray), .int .i64 0, .string (⟨#[]⟩ : ByteArray), .int .i64 0]) (t := 48) ?hr ?_; (case hd => rfl); (case hg => rfl); (case hr => first | (go_simp; done) | (go_simp; rfl)); intro fb hfb w2 hbox hb2; have hz0 := cell_at hbox 0; have hz1 := cell_at hbox 1; have hz2 := cell_at hbox 2; have hz3 := cell_at hbox 3; have hz4 := cell_at hbox 4; have hz5 := cell_at hbox 5; have hy0 := free_of hbox 0; have hy1 := free_of hbox 1; have hy2 := free_of hbox 2; have hy3 := free_of hbox 3; have hy4 := free_of hbox 4; have hy5 := free_of hbox 5; simp at hz0 hz1 hz2 hz3 hz4 hz5; replace hb2 := Aside0.mk hb2; replace hbox := Aside0.mk hbox; replace hfb := Aside0.mk hfb))
   have hle : wr.heap.size ≤ fb := by rw [hfb.out]; exact Nat.le_refl _
   have hb3 := (((((hb2.out.setCell (p := ⟨fb, 0, none⟩) hle (.int .i64 fk.f0)).setCell (p := ⟨fb, 1, none⟩) hle (.string fk.f1)).setCell (p := ⟨fb, 2, none⟩) hle (.string fk.f2)).setCell (p := ⟨fb, 3, none⟩) hle (.int .i64 fk.f3)).setCell (p := ⟨fb, 4, none⟩) hle (.string fk.f4)).setCell (p := ⟨fb, 5, none⟩) hle (.int .i64 fk.f5)
   generalize (((((w2.setCell ⟨fb, 0, none⟩ (.int .i64 fk.f0)).setCell ⟨fb, 1, none⟩ (.string fk.f1)).setCell ⟨fb, 2, none⟩ (.string fk.f2)).setCell ⟨fb, 3, none⟩ (.int .i64 fk.f3)).setCell ⟨fb, 4, none⟩ (.string fk.f4)).setCell ⟨fb, 5, none⟩ (.int .i64 fk.f5) = w3 at *
   have hcall := hps.out B eb _ _ w3 (below_then hbw.out hbw.out.size hb3) (HE.out.below hb3)
   unfold FS FV at hcall
   refine hcall.mono ?_
   rintro e w4 ⟨rfl, hE4, hF4⟩
   clear x0 x1 x2 x3 x4 x5 hz0 hz1 hz2 hz3 hz4 hz5 hy0 hy1 hy2 hy3 hy4 hy5 hcall
   have hF5 : Fr (Er B eb w1) w1 w4 := Er.trans (HF.out.trans (Fr.of_below (S := fun _ => False) hb3) (fun _ _ h => h.elim)) hF4
   replace hE4 := Aside0.mk hE4; replace hF5 := Aside0.mk hF5; clear HE HF hF4 hb3
   go_wp2_with fail
   go_roundg (fs.length - (k + 1))
   case rel => exact ⟨k + 1, by omega, by go_num, by omega, hE4, hF5⟩
   case measure => have := hg.out; omega
  ·obtain rfl : k = fs.length := by omega
   go_wp2_with fail
   have nq : qm ≠ eb := by rintro rfl; obtain ⟨pv, rv, vb, g, g2, nb, xb, hE, _⟩ := hHE.out; have := hHq.out; rw [hE] at this; simp at this
   have nh : hm ≠ eb := by rintro rfl; obtain ⟨pv, rv, vb, g, g2, nb, xb, hE, _⟩ := hHE.out; have := hHh.out; rw [hE] at this; simp at this
   have hq2 := Er.fr HF.out (lt_of hHq.out) nq hHq.out (by simp)
   have hh2 := Er.fr HF.out (lt_of hHh.out) nh hHh.out (by simp)
   have hU : ∀ (o1 o2 o3 : Obj), (((wr.alloc o1).alloc o2).alloc o3).heap[wr.heap.size]? = some o1 ∧ (((wr.alloc o1).alloc o2).alloc o3).heap[wr.heap.size + 1 + 1]? = some o3 ∧ Below wr.heap.size wr (((wr.alloc o1).alloc o2).alloc o3) := fun o1 o2 o3 =>
    ⟨heap_old (heap_old (heap_new wr o1) o2) o3, by have := heap_new ((wr.alloc o1).alloc o2) o3; simpa using this, below_alloc (below_alloc (below_alloc (Below.refl _ _) _) _) _⟩
   have hU := hU (.cells #[.string ⟨#[]⟩, .string ⟨#[]⟩, .pointer none, .string ⟨#[]⟩, .string ⟨#[]⟩, .string ⟨#[]⟩, .string ⟨#[]⟩, .string ⟨#[]⟩, .string ⟨#[]⟩, .bool false, .bool false] 89) (.map #[] 0) (.cells #[.string ⟨#[]⟩, .pointer (some ⟨wr.heap.size, 0, none⟩), .string ⟨#[]⟩, .map (some (wr.heap.size + 1)), .int .i64 0] 91)
   generalize ((wr.alloc (.cells #[.string ⟨#[]⟩, .string ⟨#[]⟩, .pointer none, .string ⟨#[]⟩, .string ⟨#[]⟩, .string ⟨#[]⟩, .string ⟨#[]⟩, .string ⟨#[]⟩, .string ⟨#[]⟩, .bool false, .bool false] 89)).alloc (.map #[] 0)).alloc (.cells #[.string ⟨#[]⟩, .pointer (some ⟨wr.heap.size, 0, none⟩), .string ⟨#[]⟩, .map (some (wr.heap.size + 1)), .int .i64 0] 91) = w5 at *
   obtain ⟨hU1, hU2, hb5⟩ := hU
   have F5 : Fr (fun _ => False) wr w5 := Fr.of_below hb5
   have hq5 := F5.heap hq2 (fun h => h)
   have hh5 := F5.heap hh2 (fun h => h)
   have henc := encode_nil (HE.out.below hb5) hq5 hh5 (wr.heap.size + 1 + 1) wr.heap.size _ _ hU2 hU1 (by simp) (.map (some (wr.heap.size + 1))) (.int .i64 0) (.string ⟨#[]⟩) (.string ⟨#[]⟩) (.string ⟨#[]⟩) (by simp) (by simp) (by simp) (by simp) (by simp)
   refine henc.mono ?_
   rintro e w6 ⟨rfl, k1, k2, k3⟩
   clear henc
   simp only [List.setIfInBounds_toArray, List.set_cons_succ, List.set_cons_zero] at k1 k2
   have hh6 := k3.heap hh5 (by have := lt_of hh2; omega)
   have F16 : Fr (Er B eb w1) w1 w6 := (HF.out.trans F5 (fun _ _ h => h.elim)).trans k3 (fun k hk h => by have := HF.out.size; omega)
   have hHF6 := Aside0.mk F16
   replace hh6 := Aside0.mk hh6; replace k1 := Aside0.mk k1; replace k2 := Aside0.mk k2
   have hltw : w.heap.size < wr.heap.size := by have h1 := HF.out.size; have h2 := hHb1.out.size; omega
   clear k3 F5 hq5 hh5 hU1 hU2 hb5 hq2 hh2 HE HF F16
   go_wp2_with fail
   have hres2 : w6.heap[w.heap.size]? = some (.cells #[.string ⟨#[]⟩, .string ⟨#[]⟩, .string ⟨#[]⟩, .string ⟨#[]⟩, .slice none 0 0, .int .i64 0] 33) := by
    have h := hHb1.out
    have h6 := hHF6.out.below (B := B) (by rw [← hB]; exact h.size) (fun k _ h => by rcases h with h | h; rw [h]; exact hHE.out.geB; exact h.1)
    rw [h6.block _ (by omega), h.block _ (by omega)]
    exact hHR.out
   have hT6 : Tab w6 := by
    have h := hHb1.out
    have h6 := hHF6.out.below (B := B) (by rw [← hB]; exact h.size) (fun k _ h => by rcases h with h | h; rw [h]; exact hHE.out.geB; exact h.1)
    have h1 := HT.out.lt
    exact ((HT.out.below hHB.out h1).below h (by omega)).below h6 (by omega)
   have hb6 : Below w.heap.size w w6 := by
    have h := hHb1.out
    have h6 := hHF6.out.below (B := B) (by rw [← hB]; exact h.size) (fun k _ h => by rcases h with h | h; rw [h]; exact hHE.out.geB; exact h.1)
    exact below_then hHB.out hHB.out.size (by rw [hB]; exact h.trans h6)
   have hG6 : GB w.heap.size hm w6 w6 := ⟨hh6.out, hT6, ⟨_, by rfl, hres2⟩, Fr.refl _ _⟩
   have q1 := cell_at k2.out 1; have q3 := cell_at k2.out 3; have q4 := cell_at k2.out 4
   have p4 := cell_at k1.out 4; have p6 := cell_at k1.out 6; have p7 := cell_at k1.out 7
   simp at q1 q3 q4 p4 p6 p7
   have hGd : ∀ w', GB w.heap.size hm w6 w' → GB w.heap.size hm w6 w'.drew := fun w' h => h.drew
   have hGs : ∀ w' v0 v1 v2 v3 v4 v5, GB w.heap.size hm w6 w' → GB w.heap.size hm w6 ((((((w'.setCell ⟨w.heap.size, 0, none⟩ v0).setCell ⟨w.heap.size, 1, none⟩ v1).setCell ⟨w.heap.size, 2, none⟩ v2).setCell ⟨w.heap.size, 3, none⟩ v3).setCell ⟨w.heap.size, 4, none⟩ v4).setCell ⟨w.heap.size, 5, none⟩ v5) := fun w' v0 v1 v2 v3 v4 v5 h => (((((h.set 0 v0).set 1 v1).set 2 v2).set 3 v3).set 4 v4).set 5 v5
   replace hb6 := Aside0.mk hb6
   clear hres2 hT6
   generalize hub : wr.heap.size = ub at *
   generalize hrb : ub + 1 + 1 = rb at *
   have hn1 : ¬ w.heap.size = ub := by omega
   have hn2 : ¬ w.heap.size = rb := by omega
   replace hub := Aside0.mk hub; replace hrb := Aside0.mk hrb
   go_region_held3 (fun w' => w'.cell? ⟨rb, 1, none⟩ = some (.pointer (some ⟨ub, 0, none⟩)) ∧ w'.cell? ⟨rb, 3, none⟩ = some (.map (some hm)) ∧ w'.cell? ⟨rb, 4, none⟩ = some (.int .i64 0) ∧ w'.cell? ⟨ub, 4, none⟩ = some (.string (strOfNums (P fs.length))) ∧ w'.cell? ⟨ub, 6, none⟩ = some (.string ⟨#[]⟩) ∧ w'.cell? ⟨ub, 7, none⟩ = some (.string (strOfNums (R fs.length))) ∧ GB w.heap.size hm w6 w') ((simp [*, World.cell?_setCell_far]; done)) (first | ((go_at_call 48; have hS : _ ∧ _ ∧ _ ∧ _ ∧ _ ∧ _ ∧ GB w.heap.size hm w6 _ := (by assumption); obtain ⟨s1, s3, s4, t4, t6, t7, sG⟩ := hS; refine (hep.out ub _ sG.tab t4 t7).mono ?_; rintro e w7 ⟨rfl, hb⟩; have hG7 := GB.call sG hb; have q1 := cell_later hb s1; have q3 := cell_later hb s3; have q4 := cell_later hb s4; have p4 := cell_later hb t4; have p6 := cell_later hb t6; have p7 := cell_later hb t7; clear s1 s3 s4 t4 t6 t7 sG; obtain ⟨v0, v1, v2, v3, v4, v5, hcs⟩ := hG7.cells; have z0 := cell_at hcs 0; have z1 := cell_at hcs 1; have z2 := cell_at hcs 2; have z3 := cell_at hcs 3; have z4 := cell_at hcs 4; have z5 := cell_at hcs 5; have y0 := free_of hcs 0; have y1 := free_of hcs 1; have y2 := free_of hcs 2; have y3 := free_of hcs 3; have y4 := free_of hcs 4; have y5 := free_of hcs 5; simp at z0 z1 z2 z3 z4 z5; replace hcs := Aside0.mk hcs)) | ((go_at_call 49; have hS : _ ∧ _ ∧ _ ∧ _ ∧ _ ∧ _ ∧ GB w.heap.size hm w6 _ := (by assumption); obtain ⟨s1, s3, s4, t4, t6, t7, sG⟩ := hS; refine (sorted_nil hm _ sG.map).mono ?_; rintro e w7 ⟨rfl, hb⟩; have hG7 := GB.call sG hb; have q1 := cell_later hb s1; have q3 := cell_later hb s3; have q4 := cell_later hb s4; have p4 := cell_later hb t4; have p6 := cell_later hb t6; have p7 := cell_later hb t7; clear s1 s3 s4 t4 t6 t7 sG; obtain ⟨v0, v1, v2, v3, v4, v5, hcs⟩ := hG7.cells; have z0 := cell_at hcs 0; have z1 := cell_at hcs 1; have z2 := cell_at hcs 2; have z3 := cell_at hcs 3; have z4 := cell_at hcs 4; have z5 := cell_at hcs 5; have y0 := free_of hcs 0; have y1 := free_of hcs 1; have y2 := free_of hcs 2; have y3 := free_of hcs 3; have y4 := free_of hcs 4; have y5 := free_of hcs 5; simp at z0 z1 z2 z3 z4 z5; replace hcs := Aside0.mk hcs)))
   all_goals
    go_wp2
    (try simp only [Exit.inBlock, Exit.then])
    refine bodyPost_ret (v := .tuple #[.agg #[.string (strOfNums (P fs.length)), .string (strOfNums (R fs.length)), .string E, .string ⟨#[]⟩, .slice none 0 0, .int .i64 0], .bool true]) ?_ rfl ⟨rfl, ?_⟩
    ·rw [results_cell_tmp rfl]; go_simp
    ·have hS : _ ∧ _ ∧ _ ∧ _ ∧ _ ∧ _ ∧ GB w.heap.size hm w6 _ := (by assumption)
     have := hS.2.2.2.2.2.2.fr.below (B := w.heap.size) hb6.out.size (fun k _ h => by omega)
     exact hb6.out.trans this
end H
end Go.Proofs.YtclmjmfcggkpaaaGreatDoor
namespace Go.Proofs.YtclmjmfcggkpaaaGreatDoor
open Go.RowKit Go.Proofs.YtclmjmfcggkpaaaGreatDoorW.PrintWords Go.Proofs.YtclmjmfcggkpaaaGreatDoorW.PrintLast Go.Proofs.YtclmjmfcggkpaaaGreatDoorW.PrintMore
open PX
namespace H
set_option maxRecDepth 100000
theorem ne_nil (s : ByteArray) (h : 0 < s.size) : s.toList ≠ [] := by
 intro e
 rw [ByteArray.toList_eq] at e
 have : s.data.toList.length = 0 := by rw [e]; rfl
 simp only [Array.length_toList] at this
 have h2 : s.data.size = s.size := rfl
 omega
def fA : S48 := ⟨0, ⟨#[]⟩, ⟨#[65]⟩, 0, ⟨#[120, 32, 121]⟩, 0⟩
def pA : Nat → List Int | 0 => [47, 123, 65, 125] | _ => [47, 120, 32, 121]
def rA : Nat → List Int | 0 => [47, 123, 65, 125] | _ => [47, 120, 37, 50, 48, 121]
theorem idxA : Idx [47, 123, 65, 125] ⟨#[65]⟩ false 1 := ⟨⟨100, by kernel_rfl⟩, by decide⟩
theorem labA {B eb : Nat} {q h : Value} {w : World} (he : EncS B eb q h (pA 0) (rA 0) w) : Lab B eb q h (pA 0) (rA 0) ⟨#[65]⟩ ⟨#[120, 32, 121]⟩ (pA 1) (rA 1) w :=
 ⟨he, by decide, by decide, by decide, by decide, false, 1, 1, idxA, idxA, by decide, by decide⟩
theorem epA (b : Nat) (w : World) (hT : Tab w) (h4 : w.cell? ⟨b, 4, none⟩ = some (.string (strOfNums (pA 1)))) (h7 : w.cell? ⟨b, 7, none⟩ = some (.string (strOfNums (rA 1)))) :
 Calls Tryz.prog 48 #[.pointer (some ⟨b, 0, none⟩)] w fun e w' => e = .returned (.string ⟨#[47, 120, 37, 50, 48, 121]⟩) ∧ Below w.heap.size w w' :=
 ep_call b ⟨#[47, 120, 32, 121]⟩ ⟨#[47, 120, 37, 50, 48, 121]⟩ w hT h4 h7 (ne_nil _ (by decide)) (by decide) (by decide) (by rfl)
theorem bindA (A0 : Option Addr) (c0 : Nat) (w : World) (hT : Tab w) (h : Kd.C k48 w A0 1 [fA]) (hc : 1 ≤ c0) :
 Calls Tryz.prog 18 #[.string ⟨#[47, 123, 65, 125]⟩, .string ⟨#[]⟩, .slice none 0 0, .slice A0 1 c0] w fun e w' =>
  e = .returned (.tuple #[.agg #[.string ⟨#[47, 120, 32, 121]⟩, .string ⟨#[47, 120, 37, 50, 48, 121]⟩, .string ⟨#[47, 120, 37, 50, 48, 121]⟩, .string ⟨#[]⟩, .slice none 0 0, .int .i64 0], .bool true]) ∧ Below w.heap.size w w' :=
 bind_labels ⟨#[47, 123, 65, 125]⟩ ⟨#[47, 120, 37, 50, 48, 121]⟩ [fA] A0 c0 pA rA w hT h hc (by decide) (by decide) (by decide) (by decide)
  (fun i hi B eb q h w' _ he => by
   obtain rfl : i = 0 := by simpa using hi
   exact put_string (labA he) ⟨#[]⟩ 0)
  (fun b w' => epA b w')
set_option maxHeartbeats 400000 in
theorem ipath_call (s : ByteArray) (sep : Bool) (w : World) (hs : 3 * s.size ≤ 140737488355328) :
 Calls Tryz.prog 28 #[.string s, .bool sep] w fun e w' => e = .returned (.string (strOfNums (escB (!sep) (bytesOf s)))) ∧ Below w.heap.size w w' := by
 go_enter Tryz.func28, Tryz.ntmps28
 go_wp2_with fail
 refine (escPath s sep w hs).mono ?_
 rintro e w' ⟨rfl, hb⟩
 go_wp2
 go_ret
 exact ⟨rfl, hb⟩
theorem C_one (w : World) (b : Nat) (x : S48) (h : w.heap[b]? = some (.cells #[.int .i64 x.f0, .string x.f1, .string x.f2, .int .i64 x.f3, .string x.f4, .int .i64 x.f5] 48 (0, 0))) : Kd.C k48 w (some ⟨b, 0, none⟩) 1 [x] := by
 refine ⟨rfl, by omega, fun _ => ⟨⟨b, 0, none⟩, rfl, fun j p hj => ?_⟩⟩
 match j, hj with
 | 0, hj =>
   obtain rfl : x = p := by simpa using hj
   refine ⟨_, rfl, k48_mk w x, fun i u hi => ?_⟩
   rw [plain_add, cell_at h, ← hi]
   simp
set_option maxHeartbeats 1000000 in
theorem works_call (w : World) (hT : Tab w) : Calls Tryz.prog 17 #[] w fun e w' => e = .returned (.bool true) ∧ Below w.heap.size w w' := by
 replace hT := Aside0.mk hT
 go_enter Tryz.func17, Tryz.ntmps17
 go_wp2_with fail
 have hb0 := below_alloc (Below.refl w.heap.size w) (.cells #[.int .i64 0, .string ⟨#[]⟩, .string ⟨#[65]⟩, .int .i64 0, .string ⟨#[120, 32, 121]⟩, .int .i64 0] 48)
 have hn0 := heap_new w (.cells #[.int .i64 0, .string ⟨#[]⟩, .string ⟨#[65]⟩, .int .i64 0, .string ⟨#[120, 32, 121]⟩, .int .i64 0] 48)
 generalize w.alloc (.cells #[.int .i64 0, .string ⟨#[]⟩, .string ⟨#[65]⟩, .int .i64 0, .string ⟨#[120, 32, 121]⟩, .int .i64 0] 48) = w0 at *
 refine (bindA _ 1 w0 (hT.out.below hb0 hT.out.lt) (C_one w0 _ fA hn0) (Nat.le_refl _)).mono ?_
 rintro e w1 ⟨rfl, hb1⟩
 have hb2 := Aside0.mk (below_then hb0 hb0.size hb1)
 clear hn0
 go_wp2_with fail
 refine (ipath_call ⟨#[97, 32, 98]⟩ true _ (by decide)).mono ?_
 rintro e w2 ⟨rfl, hb3⟩
 have hx : strOfNums (escB (!true) (bytesOf ⟨#[97, 32, 98]⟩)) = ⟨#[97, 37, 50, 48, 98]⟩ := by decide
 simp only [hx]
 go_wp2
 go_ret
 refine ⟨rfl, ?_⟩
 have h4 := below_alloc hb2.out (.cells #[.string ⟨#[47, 120, 32, 121]⟩, .string ⟨#[47, 120, 37, 50, 48, 121]⟩, .string ⟨#[47, 120, 37, 50, 48, 121]⟩, .string ⟨#[]⟩, .slice none 0 0, .int .i64 0] 33)
 exact below_then h4 h4.size hb3
end H
end Go.Proofs.YtclmjmfcggkpaaaGreatDoor
