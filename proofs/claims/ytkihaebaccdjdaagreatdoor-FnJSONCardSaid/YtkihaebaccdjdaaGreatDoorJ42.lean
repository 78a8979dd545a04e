import Derived.Test.YtkihaebaccdjdaaGreatDoorJ15
import Derived.Test.YtkihaebaccdjdaaGreatDoorJ14
import Derived.Test.YtkihaebaccdjdaaGreatDoorJ8
set_option linter.unusedVariables false
set_option linter.unusedSimpArgs false
namespace Go.Proofs.YtkihaebaccdjdaaGreatDoor
open Go.RowKit Go.Proofs.YtkihaebaccdjdaaGreatDoorW.PrintWords Go.Proofs.YtkihaebaccdjdaaGreatDoorW.PrintLast Go.Proofs.YtkihaebaccdjdaaGreatDoorW.PrintMore
open PX
namespace H
/-! ### impl.EncodeXML -/
set_option maxHeartbeats 8000000 in
set_option maxRecDepth 100000 in
theorem exml {out : List Int} (name : ByteArray) (kd : Int) (s0 : ByteArray) (num0 : Int) (i0 k0 v0 : ByteArray) (d1 d2 d3 d4 : Option Addr) (r1 r2 r3 r4 u1 u2 u3 u4 : Nat) (l : List S172) (w : World) (hT : Lib.Utf8Tabs 2 3 w) (h4 : 4 ≤ w.heap.size)
 (hnm : name.size ≠ 0) (hnm2 : name.size ≤ 9223372036854775807) (hat : ∀ a ∈ l, okAt a) (hl : ([] ++ [60] ++ xs_ name ++ xats l ++ [62]).length ≤ 140737488355328)
 (hel : ∀ w1, Fr (fun k => w.heap.size ≤ k) w w1 → Calls Tryz.prog 46 #[.string name, ND kd s0 num0 (.slice d1 r1 u1) (.slice d2 r2 u2) (.slice d3 r3 u3) i0 k0 v0 (.slice d4 r4 u4)] w1 fun e w' => ∃ A n c, e = .returned (.agg #[.string ⟨#[]⟩, .string name, .slice A n c]) ∧ Kd.F k172 w' (fun k => w1.heap.size ≤ k) A n l ∧ Below w1.heap.size w1 w')
 (hin : ∀ (b sc : Nat) (X : Nat → Prop) (A : Option Addr) (n c : Nat) (w1 : World), JB 97 w.heap.size X b ([] ++ [60] ++ xs_ name ++ xats l ++ [62]) w1 → Lib.Utf8Tabs 2 3 w1 → Fr (fun k => w.heap.size ≤ k) w w1 → Kd.F k172 w1 (fun k => k < w.heap.size ∨ X k) A n l →
  Calls Tryz.prog 44 #[XV b sc name (.slice A n c) false, ND kd s0 num0 (.slice d1 r1 u1) (.slice d2 r2 u2) (.slice d3 r3 u3) i0 k0 v0 (.slice d4 r4 u4), .bool false] w1 fun e w' => e = .returned (.tuple #[]) ∧ Wrote 97 w.heap.size X b out w1 w' ∧ Lib.Utf8Tabs 2 3 w') :
 Calls Tryz.prog 18 #[.string name, ND kd s0 num0 (.slice d1 r1 u1) (.slice d2 r2 u2) (.slice d3 r3 u3) i0 k0 v0 (.slice d4 r4 u4)] w fun e w' => e = .returned (.string (strOfNums out)) ∧ Fr (fun k => w.heap.size ≤ k) w w' := by
 have hinU := hin
 unfold XV at hinU
 unfold ND at hinU hel ⊢
 replace hinU := Aside0.mk hinU; replace hel := Aside0.mk hel; replace hT := Aside0.mk hT; replace h4 := Aside0.mk h4; replace hat := Aside0.mk hat; replace hl := Aside0.mk hl
 clear hin
 go_enter Tryz.func18, Tryz.ntmps18
 go_wp2_with fail
 have hb := below_alloc (Below.refl w.heap.size w) (.cells #[.int .i64 kd, .string s0, .int .i64 num0, .slice d1 r1 u1, .slice d2 r2 u2, .slice d3 r3 u3, .string i0, .string k0, .string v0, .slice d4 r4 u4] 28)
 have hnd := heap_new w (.cells #[.int .i64 kd, .string s0, .int .i64 num0, .slice d1 r1 u1, .slice d2 r2 u2, .slice d3 r3 u3, .string i0, .string k0, .string v0, .slice d4 r4 u4] 28)
 have hz : (w.alloc (.cells #[.int .i64 kd, .string s0, .int .i64 num0, .slice d1 r1 u1, .slice d2 r2 u2, .slice d3 r3 u3, .string i0, .string k0, .string v0, .slice d4 r4 u4] 28)).heap.size = w.heap.size + 1 := by simp
 generalize w.alloc (.cells #[.int .i64 kd, .string s0, .int .i64 num0, .slice d1 r1 u1, .slice d2 r2 u2, .slice d3 r3 u3, .string i0, .string k0, .string v0, .slice d4 r4 u4] 28) = w0 at *
 have hJ := JB.made 97 (by decide) w0 (fun k => k = w.heap.size) (fun k hk => by omega)
 have hb0 := below_alloc (Below.refl w0.heap.size w0) (.cells #[.slice none 0 0] 97)
 have hnd1 := heap_below hb0 hnd
 have hb1 := below_then hb hb.size hb0
 have hz1 : (w0.alloc (.cells #[.slice none 0 0] 97)).heap.size = w0.heap.size + 1 := by simp
 rw [hz] at hz1
 generalize w0.alloc (.cells #[.slice none 0 0] 97) = w1 at *
 obtain ⟨b, hbb⟩ : ∃ b, w0.heap.size = b := ⟨_, rfl⟩
 rw [hbb] at hJ
 obtain ⟨nb, hnb⟩ : ∃ nb, w.heap.size = nb := ⟨_, rfl⟩
 have hJ' : JB 97 w.heap.size (fun k => k = w.heap.size) b [] w1 := by
  obtain ⟨v, q1, q2, q3⟩ := hJ.out
  exact ⟨⟨v, q1, own_low q2 (by omega), q3⟩, by have := hJ.ge; omega, hJ.ne, hJ.low⟩
 have hT1 := Utf8Tabs_below hT.out hb1
 have hE := xnewE b w1
 have hbw : w.heap.size + 1 = b := by omega
 try rw [← hbw] at hE
 clear hJ hb hb0 hnd
 replace hJ' := Aside0.mk hJ'; replace hb1 := Aside0.mk hb1; replace hT1 := Aside0.mk hT1; replace hnd1 := Aside0.mk hnd1
 try rw [hz]
 refine hE.mono ?_
 rintro e w2 ⟨sc, eb, rfl, heb, ke2, hb2⟩
 rw [hbw] at ke2
 try rw [hbw]
 have kn2 := heap_below hb2 hnd1.out
 have hF2 := Aside0.mk ((Fr.of_below (S := fun k => w.heap.size ≤ k) hb1.out).trans (Fr.of_below (S := fun _ => False) hb2) (fun _ _ h => h.elim))
 have hT2 := Aside0.mk (Utf8Tabs_below hT1.out hb2)
 have hJ2 : Aside0 (JB 97 w.heap.size (fun k => k = nb ∨ k = eb) b [] w2) := .mk (hJ'.out.re (fun k hk => hk.imp (fun e => by omega) (fun e => by omega)) (fun k hk => by rcases hk with e | e; have := hb2.size; omega; subst e; exact lt_of ke2) hb2)
 rw [hnb] at kn2
 clear hb2 hE
 have e0 := cell_at ke2 0
 have e1 := cell_at ke2 1
 simp at e0 e1
 have q0 := cell_at kn2 0
 have q1 := cell_at kn2 1
 have q2 := cell_at kn2 2
 have q3 := cell_at kn2 3
 have q4 := cell_at kn2 4
 have q5 := cell_at kn2 5
 have q6 := cell_at kn2 6
 have q7 := cell_at kn2 7
 have q8 := cell_at kn2 8
 have q9 := cell_at kn2 9
 simp at q0 q1 q2 q3 q4 q5 q6 q7 q8 q9
 replace ke2 := Aside0.mk ke2
 replace kn2 := Aside0.mk kn2
 try rw [hnb]
 go_wp2_with fail
 go_region_held3 (fun w' => w'.cell? ⟨eb, 0, none⟩ = some (.iface 95 (.pointer (some ⟨b, 0, none⟩))) ∧ w'.cell? ⟨eb, 1, none⟩ = some (.pointer (some ⟨sc, 0, none⟩)) ∧ w'.cell? ⟨nb, 0, none⟩ = some (.int .i64 kd) ∧ w'.cell? ⟨nb, 1, none⟩ = some (.string s0) ∧ w'.cell? ⟨nb, 2, none⟩ = some (.int .i64 num0) ∧ w'.cell? ⟨nb, 3, none⟩ = some (.slice d1 r1 u1) ∧ w'.cell? ⟨nb, 4, none⟩ = some (.slice d2 r2 u2) ∧ w'.cell? ⟨nb, 5, none⟩ = some (.slice d3 r3 u3) ∧ w'.cell? ⟨nb, 6, none⟩ = some (.string i0) ∧ w'.cell? ⟨nb, 7, none⟩ = some (.string k0) ∧ w'.cell? ⟨nb, 8, none⟩ = some (.string v0) ∧ w'.cell? ⟨nb, 9, none⟩ = some (.slice d4 r4 u4)) (simp [*, World.cell?_setCell_far]) (first | ((go_at_call 46; refine (hel.out _ (hF2.out.trans (Fr.of_below (S := fun _ => False) (drewBx _)) (fun _ _ h => h.elim))).mono ?_; rintro e w3 ⟨A, n, c, rfl, hA, hb⟩; replace hb := undrewx hb; have ke3 := heap_below hb ke2.out; have kn3 := heap_below hb kn2.out; have hJ3 := Aside0.mk (hJ2.out.re (X' := fun k => (k = nb ∨ k = eb) ∨ (w2.heap.size ≤ k ∧ k < w3.heap.size)) (fun k hk => hk.imp id (fun h => h.1)) (fun k hk => by rcases hk with e | e; have := hJ2.out.low k e; have := hb.size; omega; exact e.2) hb); have hA3 : Aside0 (Kd.F k172 w3 (fun k => (k < w.heap.size ∨ ((k = nb ∨ k = eb) ∨ (w2.heap.size ≤ k ∧ k < w3.heap.size)))) A n l) := .mk (Kd.F_mono (Kd.F_bound hA) (fun k hk => .inr (.inr hk))); have hT3 := Aside0.mk (Utf8Tabs_below hT2.out hb); have hF3 := Aside0.mk (hF2.out.trans (Fr.of_below (S := fun _ => False) hb) (fun _ _ h => h.elim)); clear hb hA; have e0 := cell_at ke3 0; have e1 := cell_at ke3 1; simp at e0 e1; have q0 := cell_at kn3 0; have q1 := cell_at kn3 1; have q2 := cell_at kn3 2; have q3 := cell_at kn3 3; have q4 := cell_at kn3 4; have q5 := cell_at kn3 5; have q6 := cell_at kn3 6; have q7 := cell_at kn3 7; have q8 := cell_at kn3 8; have q9 := cell_at kn3 9; unfold NDc at q0 q1 q2 q3 q4 q5 q6 q7 q8 q9; simp at q0 q1 q2 q3 q4 q5 q6 q7 q8 q9; replace ke3 := Aside0.mk ke3; replace kn3 := Aside0.mk kn3)) | ((go_at_call 45; refine (xroot_call (sc := sc) name A n c l w3 h4.out hJ3.out hT3.out hnm hnm2 hA3.out hat.out hl.out).mono ?_; rintro e w4 ⟨rfl, hw, hT4⟩; have ke4 := hw.2.heap ke3.out (fun e => e.2 (.inl (.inr rfl))); have kn4 := hw.2.heap kn3.out (fun e => e.2 (.inl (.inl rfl))); have hA4 := Aside0.mk (Kd.F_step hA3.out (keep_ok (by have := hF3.out.size; omega) hw.2 (fun _ h => h))); have hF4 := Aside0.mk (hF3.out.trans hw.2 (fun k _ h => h.1)); have hJ4 := Aside0.mk hw.1; replace hT4 := Aside0.mk hT4; clear hw; have e0 := cell_at ke4 0; have e1 := cell_at ke4 1; simp at e0 e1; have q0 := cell_at kn4 0; have q1 := cell_at kn4 1; have q2 := cell_at kn4 2; have q3 := cell_at kn4 3; have q4 := cell_at kn4 4; have q5 := cell_at kn4 5; have q6 := cell_at kn4 6; have q7 := cell_at kn4 7; have q8 := cell_at kn4 8; have q9 := cell_at kn4 9; unfold NDc at q0 q1 q2 q3 q4 q5 q6 q7 q8 q9; simp at q0 q1 q2 q3 q4 q5 q6 q7 q8 q9; replace ke4 := Aside0.mk ke4; replace kn4 := Aside0.mk kn4; unfold XV)) | ((go_at_call 44; refine (hinU.out b sc _ A n c w4 hJ4.out hT4.out hF4.out hA4.out).mono ?_; rintro e w5 ⟨rfl, hw, hT5⟩; have ke5 := hw.2.heap ke4.out (fun e => e.2 (.inl (.inr rfl))); have kn5 := hw.2.heap kn4.out (fun e => e.2 (.inl (.inl rfl))); have hF5 := Aside0.mk (hF4.out.trans hw.2 (fun k _ h => h.1)); have hJ5 := Aside0.mk hw.1; clear hw hT5; have e0 := cell_at ke5 0; have e1 := cell_at ke5 1; simp at e0 e1; have q0 := cell_at kn5 0; have q1 := cell_at kn5 1; have q2 := cell_at kn5 2; have q3 := cell_at kn5 3; have q4 := cell_at kn5 4; have q5 := cell_at kn5 5; have q6 := cell_at kn5 6; have q7 := cell_at kn5 7; have q8 := cell_at kn5 8; have q9 := cell_at kn5 9; unfold NDc at q0 q1 q2 q3 q4 q5 q6 q7 q8 q9; simp at q0 q1 q2 q3 q4 q5 q6 q7 q8 q9; replace ke5 := Aside0.mk ke5; replace kn5 := Aside0.mk kn5)))
 all_goals
  go_wp2_with fail
  refine (xtold w5 hJ5.out).mono ?_
  rintro e w6 ⟨rfl, hb6⟩
  have hF6 := Aside0.mk (hF5.out.trans (Fr.of_below (S := fun _ => False) hb6) (fun _ _ h => h.elim))
  clear hb6
  go_wp2
  (try simp only [Exit.inBlock, Exit.then])
  refine bodyPost_ret (v := .string (strOfNums out)) ?_ rfl ⟨rfl, hF6.out.mono (fun k hk h => by omega)⟩
  simp only [results]; go_simp
/-- What is written for an object with one kid that is a text, neither with attributes. -/
def xone (name nm s : ByteArray) : List Int := [60] ++ xs_ name ++ [62] ++ [60] ++ xs_ nm ++ [62] ++ xs_ s ++ [60] ++ [47] ++ xs_ nm ++ [62] ++ [60] ++ [47] ++ xs_ name ++ [62]
theorem exOne (name nm t : ByteArray) (num : Int) (item kn vn : ByteArray) (na ka fa : Nat) (c1 c2 c3 : Nat)
 (s0 : ByteArray) (num0 : Int) (i0 k0 v0 : ByteArray) (d1 d2 d3 : Option Addr) (r1 r2 r3 u1 u2 u3 : Nat) (z1 z2 z3 : Nat × Nat) (w : World) (hT : Lib.Utf8Tabs 2 3 w) (h4 : 4 ≤ w.heap.size)
 (hname : name.size ≠ 0) (hname2 : name.size ≤ 9223372036854775807) (hnm : nm.size ≠ 0) (hnm2 : nm.size ≤ 9223372036854775807) (hs2 : s0.size ≤ 9223372036854775807) (hl : (xone name nm s0).length ≤ 140737488355328)
 (hna : w.heap[na]? = some (.cells #[.string nm] 9 z1)) (hka : w.heap[ka]? = some (.cells (NDc 0 s0 num0 (.slice d1 r1 u1) (.slice d2 r2 u2) (.slice d3 r3 u3) i0 k0 v0 (.slice none 0 0)) 28 z2)) (hfa : w.heap[fa]? = some (.cells #[.bool false] 4 z3)) :
 Calls Tryz.prog 18 #[.string name, ND 7 t num (.slice (some ⟨na, 0, none⟩) 1 c1) (.slice (some ⟨ka, 0, none⟩) 1 c2) (.slice (some ⟨fa, 0, none⟩) 1 c3) item kn vn (.slice none 0 0)] w fun e w' => e = .returned (.string (strOfNums (xone name nm s0))) ∧ Fr (fun k => w.heap.size ≤ k) w w' := by
 refine exml name 7 t num item kn vn (some ⟨na, 0, none⟩) (some ⟨ka, 0, none⟩) (some ⟨fa, 0, none⟩) none 1 1 1 0 c1 c2 c3 0 [] w hT h4 hname hname2 (fun a ha => nomatch ha) (by unfold xone at hl; simp only [List.length_append, List.length_cons, List.length_nil, List.append_assoc] at hl ⊢; simp only [xats, List.flatMap_nil, List.length_nil]; omega) (fun w1 hf => ?_) (fun b sc X A n c w1 hJ hT1 hF hA => ?_)
 ·refine (xel0 name 7 t num (some ⟨na, 0, none⟩) (some ⟨ka, 0, none⟩) (some ⟨fa, 0, none⟩) 1 1 1 c1 c2 c3 item kn vn w1).mono ?_
  rintro e w' ⟨rfl, hb⟩
  exact ⟨none, 0, 0, rfl, Kd.F_nil k172 _ _, hb⟩
 ·have la := lt_of hna; have lk := lt_of hka; have lf := lt_of hfa
  have h1 : (([] ++ [60] ++ xs_ name ++ xats [] ++ [62]) ++ [60] ++ xs_ nm ++ xats [] ++ [62] : List Int) ++ xs_ s0 ++ [60] ++ [47] ++ xs_ nm ++ [62] ++ [60] ++ [47] ++ xs_ name ++ [62] = xone name nm s0 := by simp [xone, xats]
  have hlx := hl
  rw [← h1] at hlx ⊢
  have hl2 : ((([] ++ [60] ++ xs_ name ++ xats [] ++ [62]) ++ [60] ++ xs_ nm ++ xats [] ++ [62] : List Int)).length ≤ 140737488355328 := by simp only [List.length_append, List.length_cons, List.length_nil] at hlx ⊢; omega
  have hl3 : ((([] ++ [60] ++ xs_ name ++ xats [] ++ [62]) ++ [60] ++ xs_ nm ++ xats [] ++ [62] : List Int) ++ xs_ s0 ++ [60] ++ [47] ++ xs_ nm ++ [62]).length ≤ 140737488355328 := by simp only [List.length_append, List.length_cons, List.length_nil] at hlx ⊢; omega
  clear hl h1
  refine inx1 (out := (([] ++ [60] ++ xs_ name ++ xats [] ++ [62]) ++ [60] ++ xs_ nm ++ xats [] ++ [62] : List Int) ++ xs_ s0 ++ [60] ++ [47] ++ xs_ nm ++ [62]) name A n c false false t num nm item kn vn na ka fa none 0 c1 c2 c3 0 0 s0 num0 i0 k0 v0 d1 d2 d3 r1 r2 r3 u1 u2 u3 z1 z2 z3 w1 h4 hJ hT1 hname hname2 hnm hnm2 hlx
   hl2 (hF.heap hna (fun h => by omega)) (hF.heap hka (fun h => by omega)) (hF.heap hfa (fun h => by omega)) la lk lf (fun Y w2 hJ2 hT2 => ?_)
  exact inx0 (sc := sc) nm none 0 0 false false s0 num0 i0 k0 v0 d1 d2 d3 none r1 r2 r3 0 u1 u2 u3 0 w2 h4 hJ2 hT2 hnm hnm2 hs2 hl3
end H
end Go.Proofs.YtkihaebaccdjdaaGreatDoor
set_option linter.unusedVariables false
set_option linter.unusedSimpArgs false
namespace Go.Proofs.YtkihaebaccdjdaaGreatDoor
open Go.RowKit Go.Proofs.YtkihaebaccdjdaaGreatDoorW.PrintWords Go.Proofs.YtkihaebaccdjdaaGreatDoorW.PrintLast Go.Proofs.YtkihaebaccdjdaaGreatDoorW.PrintMore
namespace H
/-! ### impl.EncodeJSON -/
set_option maxHeartbeats 2000000 in
set_option maxRecDepth 100000 in
theorem ejson {D : World → Prop} {out : List Int} (kd : Int) (s0 : ByteArray) (num0 : Int) (i0 k0 v0 : ByteArray) (d1 d2 d3 d4 : Option Addr) (r1 r2 r3 r4 u1 u2 u3 u4 : Nat) (w : World) (hD : D w) (hl : out.length ≤ 140737488355328)
 (hk : ∀ (X : Nat → Prop) (w1 w' : World), D w1 → Fr (fun k => w.heap.size ≤ k ∧ ¬ X k) w1 w' → D w')
 (hin : ∀ (b sc : Nat) (X : Nat → Prop) (w1 : World), JB 150 (w.heap.size + 1) X b [] w1 → D w1 → Fr (fun k => w.heap.size ≤ k) w w1 → Calls Tryz.prog 39 #[.agg #[.pointer (some ⟨b, 0, none⟩), .pointer (some ⟨sc, 0, none⟩)], ND kd s0 num0 (.slice d1 r1 u1) (.slice d2 r2 u2) (.slice d3 r3 u3) i0 k0 v0 (.slice d4 r4 u4)] w1 fun e w' => e = .returned (.tuple #[]) ∧ Wrote 150 (w.heap.size + 1) X b out w1 w' ∧ D w') :
 Calls Tryz.prog 16 #[ND kd s0 num0 (.slice d1 r1 u1) (.slice d2 r2 u2) (.slice d3 r3 u3) i0 k0 v0 (.slice d4 r4 u4)] w fun e w' => e = .returned (.string (strOfNums out)) ∧ Fr (fun k => w.heap.size ≤ k) w w' := by
 replace hD := Aside0.mk hD; replace hk := Aside0.mk hk; replace hin := Aside0.mk hin
 unfold ND at hin ⊢
 go_enter Tryz.func16, Tryz.ntmps16
 go_wp2_with fail
 have hb := below_alloc (Below.refl w.heap.size w) (.cells (NDc kd s0 num0 (.slice d1 r1 u1) (.slice d2 r2 u2) (.slice d3 r3 u3) i0 k0 v0 (.slice d4 r4 u4)) 28)
 have hsz : (w.alloc (.cells (NDc kd s0 num0 (.slice d1 r1 u1) (.slice d2 r2 u2) (.slice d3 r3 u3) i0 k0 v0 (.slice d4 r4 u4)) 28)).heap.size = w.heap.size + 1 := by simp
 have hE := jnewE (w.alloc (.cells (NDc kd s0 num0 (.slice d1 r1 u1) (.slice d2 r2 u2) (.slice d3 r3 u3) i0 k0 v0 (.slice d4 r4 u4)) 28))
 rw [hsz] at hE
 have hnd := heap_new w (.cells (NDc kd s0 num0 (.slice d1 r1 u1) (.slice d2 r2 u2) (.slice d3 r3 u3) i0 k0 v0 (.slice d4 r4 u4)) 28)
 unfold NDc at hb hsz hE hnd
 generalize w.alloc (.cells #[.int .i64 kd, .string s0, .int .i64 num0, .slice d1 r1 u1, .slice d2 r2 u2, .slice d3 r3 u3, .string i0, .string k0, .string v0, .slice d4 r4 u4] 28) = w1 at *
 refine hE.mono ?_
 rintro e w2 ⟨b, sc, eb, rfl, hJ, heb, hE2, hb2⟩
 obtain ⟨nb, hnb⟩ : ∃ nb, w.heap.size = nb := ⟨_, rfl⟩
 rw [← hsz] at hb2
 have hF2 := Aside0.mk ((Fr.of_below (S := fun k => w.heap.size ≤ k) hb).trans (Fr.of_below (S := fun _ => False) hb2) (fun _ _ h => h.elim))
 have hD2 := Aside0.mk (hk.out (fun k => k < w.heap.size) _ _ hD.out (hF2.out.mono (fun k _ h => ⟨h, by omega⟩)))
 have c0 := cell_at hE2 0; have c1 := cell_at hE2 1; have c2 := cell_at hE2 2
 simp at c0 c1 c2
 replace hJ := Aside0.mk hJ; replace hE2 := Aside0.mk hE2; replace hb := Aside0.mk hb; replace hb2 := Aside0.mk hb2
 have hn2 := heap_below hb2.out hnd
 rw [hnb] at hn2 heb ⊢
 have q0 := cell_at hn2 0; have q1 := cell_at hn2 1; have q2 := cell_at hn2 2; have q3 := cell_at hn2 3; have q4 := cell_at hn2 4; have q5 := cell_at hn2 5; have q6 := cell_at hn2 6; have q7 := cell_at hn2 7; have q8 := cell_at hn2 8; have q9 := cell_at hn2 9; unfold NDc at q0 q1 q2 q3 q4 q5 q6 q7 q8 q9; simp at q0 q1 q2 q3 q4 q5 q6 q7 q8 q9
 replace hn2 := Aside0.mk hn2
 clear hE hnd
 go_wp2_with fail
 go_region_held3 (fun w' => w'.cell? ⟨eb, 1, none⟩ = some (.pointer (some ⟨b, 0, none⟩)) ∧ w'.cell? ⟨eb, 2, none⟩ = some (.pointer (some ⟨sc, 0, none⟩)) ∧ w'.cell? ⟨nb, 0, none⟩ = some (.int .i64 kd) ∧ w'.cell? ⟨nb, 1, none⟩ = some (.string s0) ∧ w'.cell? ⟨nb, 2, none⟩ = some (.int .i64 num0) ∧ w'.cell? ⟨nb, 3, none⟩ = some (.slice d1 r1 u1) ∧ w'.cell? ⟨nb, 4, none⟩ = some (.slice d2 r2 u2) ∧ w'.cell? ⟨nb, 5, none⟩ = some (.slice d3 r3 u3) ∧ w'.cell? ⟨nb, 6, none⟩ = some (.string i0) ∧ w'.cell? ⟨nb, 7, none⟩ = some (.string k0) ∧ w'.cell? ⟨nb, 8, none⟩ = some (.string v0) ∧ w'.cell? ⟨nb, 9, none⟩ = some (.slice d4 r4 u4)) (simp [*, World.cell?_setCell_far]) (first | ((go_at_call 39; refine (hin.out b sc (fun k => k = eb) _ (hJ.out.calm (drewB _)) (hk.out (fun _ => False) _ _ hD2.out (Fr.of_below (drewB _))) (hF2.out.trans (Fr.of_below (S := fun _ => False) (drewB _)) (fun _ _ h => h.elim))).mono ?_; rintro e w4 ⟨rfl, hw4, hD4⟩; have hF4 := undrewF hw4.2; have hE4 := hF4.heap hE2.out (fun e => e.2 rfl); have hn4 := hF4.heap hn2.out (fun e => absurd e.1 (by omega)); have c1 := cell_at hE4 1; have c0 := cell_at hE4 0; have c2 := cell_at hE4 2; simp at c0 c1 c2; have q0 := cell_at hn4 0; have q1 := cell_at hn4 1; have q2 := cell_at hn4 2; have q3 := cell_at hn4 3; have q4 := cell_at hn4 4; have q5 := cell_at hn4 5; have q6 := cell_at hn4 6; have q7 := cell_at hn4 7; have q8 := cell_at hn4 8; have q9 := cell_at hn4 9; unfold NDc at q0 q1 q2 q3 q4 q5 q6 q7 q8 q9; simp at q0 q1 q2 q3 q4 q5 q6 q7 q8 q9; have hJ4 := hw4.1; clear hw4; replace hJ4 := Aside0.mk hJ4; replace hF4 := Aside0.mk hF4; replace hE4 := Aside0.mk hE4; replace hn4 := Aside0.mk hn4)))
 all_goals go_wp2_with fail
 refine (jtold w4 hJ4.out).mono ?_
 rintro e w5 ⟨rfl, hb5⟩
 have hF5 := Aside0.mk (((hF2.out.trans hF4.out (fun k hk h => by have := h.1; omega)).trans (Fr.of_below (S := fun _ => False) hb5) (fun _ _ h => h.elim)))
 clear hb5
 go_wp2
 (try simp only [Exit.inBlock, Exit.then])
 refine bodyPost_ret (v := .string (strOfNums out)) ?_ rfl ⟨rfl, hF5.out.mono (fun k hk h => by omega)⟩
 simp only [results]; go_simp
end H
end Go.Proofs.YtkihaebaccdjdaaGreatDoor
set_option linter.unusedVariables false
set_option linter.unusedSimpArgs false
namespace Go.Proofs.YtkihaebaccdjdaaGreatDoor
open Go.RowKit Go.Proofs.YtkihaebaccdjdaaGreatDoorW.PrintWords Go.Proofs.YtkihaebaccdjdaaGreatDoorW.PrintLast Go.Proofs.YtkihaebaccdjdaaGreatDoorW.PrintMore
namespace H
/-! ### impl.EncodeJSON: a text, and an object with one text -/
theorem ejOne (nm t : ByteArray) (num : Int) (item kn vn : ByteArray) (na ka : Nat) (a3 a4 : Option Addr) (n3 n4 c1 c2 c3 c4 : Nat)
 (s0 : ByteArray) (num0 : Int) (i0 k0 v0 : ByteArray) (d1 d2 d3 d4 : Option Addr) (r1 r2 r3 r4 e1 e2 e3 e4 : Nat) (w : World) (z1 z2 : Nat × Nat) (hT : Lib.Utf8Tabs 2 3 w) (h4 : 4 ≤ w.heap.size)
 (hna : w.heap[na]? = some (.cells #[.string nm] 9 z1)) (hka : w.heap[ka]? = some (.cells (NDc 0 s0 num0 (.slice d1 r1 e1) (.slice d2 r2 e2) (.slice d3 r3 e3) i0 k0 v0 (.slice d4 r4 e4)) 28 z2))
 (hs : nm.size ≤ 2147483647) (hs0 : s0.size ≤ 2147483647)
 (hl : (((([] ++ [123]) ++ [34] ++ esc decL nm.size (bytesOf nm) ++ [34] ++ [58]) ++ [34] ++ esc decL s0.size (bytesOf s0) ++ [34]) ++ [125]).length ≤ 140737488355328) :
 Calls Tryz.prog 16 #[ND 7 t num (.slice (some ⟨na, 0, none⟩) 1 c1) (.slice (some ⟨ka, 0, none⟩) 1 c2) (.slice a3 n3 c3) item kn vn (.slice a4 n4 c4)] w fun e w' => e = .returned (.string (strOfNums (((([] ++ [123]) ++ [34] ++ esc decL nm.size (bytesOf nm) ++ [34] ++ [58]) ++ [34] ++ esc decL s0.size (bytesOf s0) ++ [34]) ++ [125]))) ∧ Fr (fun k => w.heap.size ≤ k) w w' :=
 ejson (D := Lib.Utf8Tabs 2 3) 7 t num item kn vn (some ⟨na, 0, none⟩) (some ⟨ka, 0, none⟩) a3 a4 1 1 n3 n4 c1 c2 c3 c4 w hT hl (fun X w1 w' h hf => (decDD w.heap.size h4).keep X _ _ h hf)
  (fun b sc X w1 hJ hD hF => jin1 (decDD (w.heap.size + 1) (by omega)) nm t num item kn vn na ka a3 a4 n3 n4 c1 c2 c3 c4 s0 num0 i0 k0 v0 d1 d2 d3 d4 r1 r2 r3 r4 e1 e2 e3 e4 w1 hJ hD z1 z2
   (hF.heap hna (fun h => absurd h (by have := lt_of hna; omega))) (hF.heap hka (fun h => absurd h (by have := lt_of hka; omega))) (by have := lt_of hna; omega) (by have := lt_of hka; omega) hs hs0 hl)
end H
end Go.Proofs.YtkihaebaccdjdaaGreatDoor
