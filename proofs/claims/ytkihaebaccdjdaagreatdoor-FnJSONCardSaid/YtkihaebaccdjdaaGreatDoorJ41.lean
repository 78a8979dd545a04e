import Derived.Test.YtkihaebaccdjdaaGreatDoorJ40
set_option linter.unusedVariables false
set_option linter.unusedSimpArgs false
namespace Go.Proofs.YtkihaebaccdjdaaGreatDoor
open Go.RowKit Go.Proofs.YtkihaebaccdjdaaGreatDoorW.PrintWords Go.Proofs.YtkihaebaccdjdaaGreatDoorW.PrintLast Go.Proofs.YtkihaebaccdjdaaGreatDoorW.PrintMore
open Go.ChangeMaps (setBlock)
namespace H
/-! ### impl.EncodeForm: one entry -/
theorem JB.frY {T : TypeId} {B b : Nat} {X S : Nat → Prop} {xs : List Int} {w w' : World} (h : JB T B X b xs w) (hf : Fr S w w') (hS : ∀ k, S k → X k) {r : Nat} (hr : w.heap.size ≤ r) (hr' : r < w'.heap.size) : JB T B (fun k => X k ∨ k = r) b xs w' := by
 obtain ⟨v, h1, h2, h3⟩ := h.out
 refine ⟨⟨v, hf.heap h1 (fun e => h.ne (hS _ e)), hf.own h2 (fun k hk e => h3 k hk (hS _ e)), fun k hk e => ?_⟩, h.ge, fun e => ?_, fun k hk => ?_⟩
 ·have := own_lt h2 k hk
  rcases e with e | e
  ·exact h3 k hk e
  ·omega
 ·have := lt_of h1
  rcases e with e | e
  ·exact h.ne e
  ·omega
 ·rcases hk with hk | hk
  ·have := h.low k hk; have := hf.size; omega
  ·omega
set_option maxHeartbeats 2000000 in
set_option maxRecDepth 100000 in
theorem qnewE (b : Nat) (w : World) : Calls Tryz.prog 27 #[.iface 52 (.pointer (some ⟨b, 0, none⟩))] w fun e w' => ∃ m eb, e = .returned (.pointer (some ⟨eb, 0, none⟩)) ∧ w.heap.size ≤ m ∧ m < eb ∧ w'.heap[m]? = some (.map #[] 0) ∧ w'.heap[eb]? = some (.cells #[.map (some m), .iface 52 (.pointer (some ⟨b, 0, none⟩)), .map (some m), .string ⟨#[]⟩, .bool false, .map none, .string ⟨#[]⟩, .bool false] 67 (0, 0)) ∧ Below w.heap.size w w' := by
 have hmm := @run_makeMap Tryz.prog
 go_enter Tryz.func27, Tryz.ntmps27
 go_wp2_with fail
 have hb := below_alloc (Below.refl w.heap.size w) (.map #[] 0)
 have hg := heap_new w (.map #[] 0)
 have hz : (w.alloc (.map #[] 0)).heap.size = w.heap.size + 1 := by simp
 generalize w.alloc (.map #[] 0) = w1 at *
 obtain ⟨m, hm⟩ : ∃ m, w.heap.size = m := ⟨_, rfl⟩
 rw [hm] at hg hz ⊢
 have hbw := Aside0.mk hb
 clear hmm hb
 refine (q61 m w1).mono ?_
 rintro e w2 ⟨rfl, hb2⟩
 have hg2 := Aside0.mk (heap_below hb2 hg)
 have hB := Aside0.mk (below_then hbw.out hbw.out.size hb2)
 have hs := hb2.size
 clear hb2 hg
 go_wp2
 go_ret
 refine ⟨m, w2.heap.size, rfl, by omega, by omega, heap_old hg2.out _, heap_new _ _, ?_⟩
 rw [← hm]
 exact below_alloc hB.out _
set_option maxHeartbeats 8000000 in
set_option maxRecDepth 100000 in
theorem eform {key val kq vq : ByteArray} (kd : Int) (s0 : ByteArray) (num0 : Int) (i0 k0 v0 : ByteArray) (d1 d2 d3 d4 : Option Addr) (r1 r2 r3 r4 u1 u2 u3 u4 : Nat) (w : World) (hT : Tab w) (h1 : 1 ≤ w.heap.size) (hk : kq.size ≤ 2147483647) (hv : vq.size ≤ 2147483647)
 (hqk : ∀ w1, Tab w1 → Calls Tryz.prog 78 #[.string key] w1 fun e w' => e = .returned (.string kq) ∧ Below w1.heap.size w1 w')
 (hqv : ∀ w1, Tab w1 → Calls Tryz.prog 78 #[.string val] w1 fun e w' => e = .returned (.string vq) ∧ Below w1.heap.size w1 w')
 (hin : ∀ (m : Nat) (w1 : World), w.heap.size ≤ m → Fr (fun k => w.heap.size ≤ k) w w1 → w1.heap[m]? = some (.map #[] 0) → Calls Tryz.prog 28 #[QV m ⟨#[]⟩ false none, ND kd s0 num0 (.slice d1 r1 u1) (.slice d2 r2 u2) (.slice d3 r3 u3) i0 k0 v0 (.slice d4 r4 u4)] w1 fun e w' => Put1 m key val w1 e w') :
 Calls Tryz.prog 11 #[ND kd s0 num0 (.slice d1 r1 u1) (.slice d2 r2 u2) (.slice d3 r3 u3) i0 k0 v0 (.slice d4 r4 u4)] w fun e w' => e = .returned (.tuple #[.string (strOfNums (bytesOf kq ++ [61] ++ bytesOf vq)), .bool true]) ∧ Fr (fun k => w.heap.size ≤ k) w w' := by
 have hinU := hin
 unfold QV ND at hinU
 unfold ND
 replace hinU := Aside0.mk hinU; replace hqk := Aside0.mk hqk; replace hqv := Aside0.mk hqv; replace hT := Aside0.mk hT
 clear hin
 go_enter Tryz.func11, Tryz.ntmps11
 go_wp2_with fail
 have hb := below_alloc (Below.refl w.heap.size w) (.cells #[.int .i64 kd, .string s0, .int .i64 num0, .slice d1 r1 u1, .slice d2 r2 u2, .slice d3 r3 u3, .string i0, .string k0, .string v0, .slice d4 r4 u4] 28)
 have hnd := heap_new w (.cells #[.int .i64 kd, .string s0, .int .i64 num0, .slice d1 r1 u1, .slice d2 r2 u2, .slice d3 r3 u3, .string i0, .string k0, .string v0, .slice d4 r4 u4] 28)
 have hz : (w.alloc (.cells #[.int .i64 kd, .string s0, .int .i64 num0, .slice d1 r1 u1, .slice d2 r2 u2, .slice d3 r3 u3, .string i0, .string k0, .string v0, .slice d4 r4 u4] 28)).heap.size = w.heap.size + 1 := by simp
 generalize w.alloc (.cells #[.int .i64 kd, .string s0, .int .i64 num0, .slice d1 r1 u1, .slice d2 r2 u2, .slice d3 r3 u3, .string i0, .string k0, .string v0, .slice d4 r4 u4] 28) = w0 at *
 have hJ := JB.made 54 (by decide) w0 (fun k => k = w.heap.size) (fun k hk => by omega)
 have hb0 := below_alloc (Below.refl w0.heap.size w0) (.cells #[.slice none 0 0] 54)
 have hnd1 := heap_below hb0 hnd
 have hb1 := below_then hb hb.size hb0
 generalize w0.alloc (.cells #[.slice none 0 0] 54) = w1 at *
 obtain ⟨b, hbb⟩ : ∃ b, w0.heap.size = b := ⟨_, rfl⟩
 rw [hbb] at hJ
 have hbw : w.heap.size + 1 = b := by omega
 obtain ⟨nb, hnb⟩ : ∃ nb, w.heap.size = nb := ⟨_, rfl⟩
 have hJ' : Aside0 (JB 54 w.heap.size (fun k => k = w.heap.size) b [] w1) := .mk (by
  obtain ⟨v, q1, q2, q3⟩ := hJ.out
  exact ⟨⟨v, q1, own_low q2 (by omega), q3⟩, by have := hJ.ge; omega, hJ.ne, hJ.low⟩)
 clear hJ hb hb0 hnd
 replace hb1 := Aside0.mk hb1; replace hnd1 := Aside0.mk hnd1
 rw [hbw]
 refine (qnewE b w1).mono ?_
 rintro e w2 ⟨m, eb, rfl, hm1, hm2e, hm2, ke2, hb2⟩
 have kn2 := heap_below hb2 hnd1.out
 have hF2 := Aside0.mk ((Fr.of_below (S := fun k => w.heap.size ≤ k) hb1.out).trans (Fr.of_below (S := fun _ => False) hb2) (fun _ _ h => h.elim))
 have hT2 := Aside0.mk (hT.out.fr hF2.out (fun e => by omega))
 have hs1 := hb1.out.size
 have hmlo : Aside0 (w.heap.size ≤ m) := .mk (by omega)
 have hnlt := lt_of hnd1.out
 have hne : Aside0 (m ≠ eb ∧ w.heap.size < m ∧ w.heap.size < eb) := .mk ⟨by omega, by omega, by omega⟩
 have hJ2 : Aside0 (JB 54 w.heap.size (fun k => k = m ∨ k = eb ∨ k = w.heap.size) b [] w2) := .mk (hJ'.out.re (fun k hk => by rcases hk with e | e | e; exact .inr (by omega); exact .inr (by omega); exact .inl e) (fun k hk => by
  rcases hk with e | e | e
  ·subst e; exact lt_of hm2
  ·subst e; exact lt_of ke2
  ·have := hb2.size; omega) hb2)
 rw [hnb] at kn2
 clear hb2 hs1 hnlt
 replace hm2 := Aside0.mk hm2
 have e0 := cell_at ke2 0
 have e1 := cell_at ke2 1
 have e2 := cell_at ke2 2
 have e3 := cell_at ke2 3
 have e4 := cell_at ke2 4
 have e5 := cell_at ke2 5
 have e6 := cell_at ke2 6
 have e7 := cell_at ke2 7
 simp at e0 e1 e2 e3 e4 e5 e6 e7
 have q0 := cell_at kn2 0
 have q1 := cell_at kn2 1
 have q2 := cell_at kn2 2
 have q3 := cell_at kn2 3
 have q4 := cell_at kn2 4
 have q5 := cell_at kn2 5
 have q6 := cell_at kn2 6
 have q7 := cell_at kn2 7
 have q8 := cell_at kn2 8
 have q9 := cell_at kn2 9
 simp at q0 q1 q2 q3 q4 q5 q6 q7 q8 q9
 replace ke2 := Aside0.mk ke2
 replace kn2 := Aside0.mk kn2
 try rw [hnb]
 go_wp2_with fail
 go_region_held3 (fun w' => w'.cell? ⟨eb, 0, none⟩ = some (.map (some m)) ∧ w'.cell? ⟨eb, 1, none⟩ = some (.iface 52 (.pointer (some ⟨b, 0, none⟩))) ∧ w'.cell? ⟨eb, 2, none⟩ = some (.map (some m)) ∧ w'.cell? ⟨eb, 3, none⟩ = some (.string ⟨#[]⟩) ∧ w'.cell? ⟨eb, 4, none⟩ = some (.bool false) ∧ w'.cell? ⟨eb, 5, none⟩ = some (.map none) ∧ w'.cell? ⟨eb, 6, none⟩ = some (.string ⟨#[]⟩) ∧ w'.cell? ⟨eb, 7, none⟩ = some (.bool false) ∧ w'.cell? ⟨nb, 0, none⟩ = some (.int .i64 kd) ∧ w'.cell? ⟨nb, 1, none⟩ = some (.string s0) ∧ w'.cell? ⟨nb, 2, none⟩ = some (.int .i64 num0) ∧ w'.cell? ⟨nb, 3, none⟩ = some (.slice d1 r1 u1) ∧ w'.cell? ⟨nb, 4, none⟩ = some (.slice d2 r2 u2) ∧ w'.cell? ⟨nb, 5, none⟩ = some (.slice d3 r3 u3) ∧ w'.cell? ⟨nb, 6, none⟩ = some (.string i0) ∧ w'.cell? ⟨nb, 7, none⟩ = some (.string k0) ∧ w'.cell? ⟨nb, 8, none⟩ = some (.string v0) ∧ w'.cell? ⟨nb, 9, none⟩ = some (.slice d4 r4 u4)) (simp [*, World.cell?_setCell_far]) (first | ((go_at_call 28; refine (hinU.out m w2.drew hmlo.out (hF2.out.trans (Fr.of_below (S := fun _ => False) (drewBx _)) (fun _ _ h => h.elim)) hm2.out).mono ?_; rintro e w3 ⟨rfl, ⟨r, hr, hM⟩, hF⟩; replace hF := undrewF hF; have ke3 := hF.heap ke2.out (fun e => hne.out.1 e.symm); have kn3 := hF.heap kn2.out (fun e => by have := hne.out; omega); have hJ3 := Aside0.mk (hJ2.out.frY hF (fun k e => .inl e) (r := r) hr (lt_of hM.row)); have hF3 := Aside0.mk (hF2.out.trans hF (fun k _ e => by have := hmlo.out; omega)); have hT3 := Aside0.mk (hT2.out.fr hF (fun e => by have := hmlo.out; omega)); replace hM := Aside0.mk hM; clear hF; have e0 := cell_at ke3 0; have e1 := cell_at ke3 1; have e2 := cell_at ke3 2; have e3 := cell_at ke3 3; have e4 := cell_at ke3 4; have e5 := cell_at ke3 5; have e6 := cell_at ke3 6; have e7 := cell_at ke3 7; simp at e0 e1 e2 e3 e4 e5 e6 e7; have q0 := cell_at kn3 0; have q1 := cell_at kn3 1; have q2 := cell_at kn3 2; have q3 := cell_at kn3 3; have q4 := cell_at kn3 4; have q5 := cell_at kn3 5; have q6 := cell_at kn3 6; have q7 := cell_at kn3 7; have q8 := cell_at kn3 8; have q9 := cell_at kn3 9; unfold NDc at q0 q1 q2 q3 q4 q5 q6 q7 q8 q9; simp at q0 q1 q2 q3 q4 q5 q6 q7 q8 q9; replace ke3 := Aside0.mk ke3; replace kn3 := Aside0.mk kn3)))
 all_goals
  go_wp2_with fail
  refine (enc1 key val kq vq w3 hJ3.out (.inl (.inl rfl)) (.inr rfl) hM.out hT3.out h1 hk hv hqk.out hqv.out (by simp only [List.length_append, bytesOf_length, List.length_cons, List.length_nil]; omega)).mono ?_
  rintro e w4 ⟨rfl, hw⟩
  have hF4 := Aside0.mk (hF3.out.trans hw.2 (fun k _ h => h.1))
  obtain ⟨v, hbv, hov, _⟩ := hw.1.out
  have hcv := cell_of hbv
  have hrun := own_string (P := Tryz.prog) Tryz.underlying22 Tryz.underlying5 Tryz.underlying9 hov
  clear hw hbv hov
  go_wp2
  go_ret2
  refine ⟨?_, hF4.out.mono (fun k hk h => by omega)⟩
  simp
theorem efOne (nm t : ByteArray) (num : Int) (item kn vn : ByteArray) (na ka fa : Nat) (a4 : Option Addr) (n4 c1 c2 c3 c4 : Nat)
 (s0 : ByteArray) (num0 : Int) (i0 k0 v0 : ByteArray) (d1 d2 d3 d4 : Option Addr) (r1 r2 r3 r4 u1 u2 u3 u4 : Nat) (z1 z2 z3 : Nat × Nat) (w : World) (hT : Tab w) (h1 : 1 ≤ w.heap.size) (hk : nm.size ≤ 2147483647) (hv : s0.size ≤ 2147483647)
 (hqk : ∀ c ∈ bytesOf nm, should c 32 = false) (hqv : ∀ c ∈ bytesOf s0, should c 32 = false)
 (hna : w.heap[na]? = some (.cells #[.string nm] 9 z1)) (hka : w.heap[ka]? = some (.cells (NDc 0 s0 num0 (.slice d1 r1 u1) (.slice d2 r2 u2) (.slice d3 r3 u3) i0 k0 v0 (.slice d4 r4 u4)) 28 z2)) (hfa : w.heap[fa]? = some (.cells #[.bool false] 4 z3)) :
 Calls Tryz.prog 11 #[ND 7 t num (.slice (some ⟨na, 0, none⟩) 1 c1) (.slice (some ⟨ka, 0, none⟩) 1 c2) (.slice (some ⟨fa, 0, none⟩) 1 c3) item kn vn (.slice a4 n4 c4)] w fun e w' => e = .returned (.tuple #[.string (strOfNums (bytesOf nm ++ [61] ++ bytesOf s0)), .bool true]) ∧ Fr (fun k => w.heap.size ≤ k) w w' :=
 eform (key := nm) (val := s0) 7 t num item kn vn (some ⟨na, 0, none⟩) (some ⟨ka, 0, none⟩) (some ⟨fa, 0, none⟩) a4 1 1 1 n4 c1 c2 c3 c4 w hT h1 hk hv (fun w1 hT1 => qescp nm w1 hT1 hk hqk) (fun w1 hT1 => qescp s0 w1 hT1 hv hqv)
  (fun m w1 hm hF hmp => inf1 m t num nm item kn vn na ka fa a4 n4 c1 c2 c3 c4 0 s0 num0 i0 k0 v0 d1 d2 d3 d4 r1 r2 r3 r4 u1 u2 u3 u4 z1 z2 z3 w1 hmp
   (hF.heap hna (fun h => by have := lt_of hna; omega)) (hF.heap hka (fun h => by have := lt_of hka; omega)) (hF.heap hfa (fun h => by have := lt_of hfa; omega))
   (fun w2 h2 => inf0 m nm false s0 num0 i0 k0 v0 d1 d2 d3 d4 r1 r2 r3 r4 u1 u2 u3 u4 w2 h2))
end H
end Go.Proofs.YtkihaebaccdjdaaGreatDoor
