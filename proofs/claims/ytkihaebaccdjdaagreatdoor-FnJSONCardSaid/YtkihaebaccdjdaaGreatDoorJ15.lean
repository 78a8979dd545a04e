import Derived.Test.YtkihaebaccdjdaaGreatDoorJ13
import Derived.Test.YtkihaebaccdjdaaGreatDoorJ14
set_option linter.unusedVariables false
set_option linter.unusedSimpArgs false
namespace Go.Proofs.YtkihaebaccdjdaaGreatDoor
open Go.RowKit Go.Proofs.YtkihaebaccdjdaaGreatDoorW.PrintWords Go.Proofs.YtkihaebaccdjdaaGreatDoorW.PrintLast Go.Proofs.YtkihaebaccdjdaaGreatDoorW.PrintMore
open PX
namespace H
/-! ### smxml.NewEncoder, Encoder.String, impl.inXML, impl.EncodeXML -/
set_option maxHeartbeats 1000000 in
set_option maxRecDepth 100000 in
theorem xnewE (b : Nat) (w : World) : Calls Tryz.prog 43 #[.iface 95 (.pointer (some ⟨b, 0, none⟩))] w fun e w' => ∃ sc eb, e = .returned (.pointer (some ⟨eb, 0, none⟩)) ∧ w.heap.size ≤ eb ∧ w'.heap[eb]? = some (.cells #[.iface 95 (.pointer (some ⟨b, 0, none⟩)), .pointer (some ⟨sc, 0, none⟩)] 163 (0, 0)) ∧ Below w.heap.size w w' := by
 obtain ⟨i5, hi5, hz5⟩ := Option.map_eq_some_iff.1 inf5
 simp only [Prod.mk.injEq] at hz5
 obtain ⟨hz0, hz1, hz2⟩ := hz5
 have hmk : ∀ w : World, (Instr.makeSlice 22 (.int .i64 64) (.int .i64 64)).run Tryz.prog w = .ok (.slice (some ⟨w.heap.size, 0, none⟩) 64 64) (w.alloc (.cells (madeCells #[.int .u8 0] 64) 5)) := fun w => by
  have h := run_makeSlice (P := Tryz.prog) (w := w) 22 5 i5 (.int .u8 0) Tryz.underlying22 hi5 hz0 .i64 .i64 64 64 (by omega) (by omega) (by rw [hz1]; decide) (by rw [hz2]; decide) (by omega)
  rw [hz1] at h
  exact h
 go_enter Tryz.func43, Tryz.ntmps43
 go_wp2_with fail
 go_wp2
 go_ret
 refine ⟨w.heap.size + 1, w.heap.size + 1 + 1, rfl, by omega, ?_, ?_⟩
 ·have h := heap_new ((w.alloc (.cells (madeCells #[.int .u8 0] 64) 5)).alloc (.cells #[.slice (some ⟨w.heap.size, 0, none⟩) 64 64] 22)) (.cells #[.iface 95 (.pointer (some ⟨b, 0, none⟩)), .pointer (some ⟨w.heap.size + 1, 0, none⟩)] 163)
  simpa using h
 ·exact below_alloc (below_alloc (below_alloc (Below.refl _ _) _) _) _
set_option maxHeartbeats 1000000 in
set_option maxRecDepth 100000 in
theorem xtold {B b : Nat} {X : Nat → Prop} {xs : List Int} {v2 : Option Addr} (w : World) (h : JB 97 B X b xs w) :
 Calls Tryz.prog 47 #[.agg #[.iface 95 (.pointer (some ⟨b, 0, none⟩)), .pointer v2]] w fun e w' => e = .returned (.string (strOfNums xs)) ∧ Below w.heap.size w w' := by
 replace h := Aside0.mk h
 have hm := mSt ⟨b, 0, none⟩
 go_enter Tryz.func47, Tryz.ntmps47
 go_wp2_with fail
 have hb := below_alloc (Below.refl w.heap.size w) (.cells #[.iface 95 (.pointer (some ⟨b, 0, none⟩)), .pointer v2] 163)
 refine (xstr _ (h.out.calm hb)).mono ?_
 rintro e w1 ⟨rfl, rfl⟩
 go_wp2
 go_ret
 exact ⟨rfl, hb⟩
set_option maxHeartbeats 2000000 in
set_option maxRecDepth 100000 in
/-- The start of an element of a node without attributes. -/
theorem xel0 (nm : ByteArray) (kind : Int) (text : ByteArray) (num : Int) (a1 a2 a3 : Option Addr) (n1 n2 n3 c1 c2 c3 : Nat) (item kn vn : ByteArray) (w : World) :
 Calls Tryz.prog 46 #[.string nm, ND kind text num (.slice a1 n1 c1) (.slice a2 n2 c2) (.slice a3 n3 c3) item kn vn (.slice none 0 0)] w fun e w' => e = .returned (.agg #[.string ⟨#[]⟩, .string nm, .slice none 0 0]) ∧ Below w.heap.size w w' := by
 unfold ND
 go_enter Tryz.func46, Tryz.ntmps46
 go_wp2_with fail
 have hb0 := below_alloc (Below.refl w.heap.size w) (.cells (NDc kind text num (.slice a1 n1 c1) (.slice a2 n2 c2) (.slice a3 n3 c3) item kn vn (.slice none 0 0)) 28)
 have hs0 : (w.alloc (.cells (NDc kind text num (.slice a1 n1 c1) (.slice a2 n2 c2) (.slice a3 n3 c3) item kn vn (.slice none 0 0)) 28)).heap.size = w.heap.size + 1 := by simp
 unfold NDc at hb0 hs0
 generalize w.alloc (.cells #[.int .i64 kind, .string text, .int .i64 num, .slice a1 n1 c1, .slice a2 n2 c2, .slice a3 n3 c3, .string item, .string kn, .string vn, .slice none 0 0] 28) = w1 at *
 have hk1 := heap_new w1 (.cells #[.string ⟨#[]⟩, .string ⟨#[]⟩, .slice none 0 0] 105)
 have hs1 : (w1.alloc (.cells #[.string ⟨#[]⟩, .string ⟨#[]⟩, .slice none 0 0] 105)).heap.size = w1.heap.size + 1 := by simp
 have hb1 := below_alloc hb0 (.cells #[.string ⟨#[]⟩, .string ⟨#[]⟩, .slice none 0 0] 105)
 generalize w1.alloc (.cells #[.string ⟨#[]⟩, .string ⟨#[]⟩, .slice none 0 0] 105) = w2 at *
 have hk2 := heap_new w2 (.cells #[.string ⟨#[]⟩, .string nm, .slice none 0 0] 105)
 have hk1' := heap_old hk1 (.cells #[.string ⟨#[]⟩, .string nm, .slice none 0 0] 105)
 have hb2 := below_alloc hb1 (.cells #[.string ⟨#[]⟩, .string nm, .slice none 0 0] 105)
 generalize w2.alloc (.cells #[.string ⟨#[]⟩, .string nm, .slice none 0 0] 105) = w3 at *
 rw [hs0] at hk1'
 rw [hs1, hs0] at hk2
 obtain ⟨g, hg⟩ : ∃ g, w.heap.size = g := ⟨_, rfl⟩
 have hbw := hb2
 rw [hg] at hk1' hk2 hbw ⊢
 have c0 := cell_at hk2 0; have c1 := cell_at hk2 1; have c2 := cell_at hk2 2
 have d0 := cell_at hk1' 0; have d1 := cell_at hk1' 1; have d2 := cell_at hk1' 2
 have e0 := free_of hk1' 0; have e1 := free_of hk1' 1; have e2 := free_of hk1' 2
 simp at c0 c1 c2 d0 d1 d2
 replace hk2 := Aside0.mk hk2; replace hk1' := Aside0.mk hk1'; replace hbw := Aside0.mk hbw
 clear hb0 hb1 hb2 hk1 hs0 hs1
 go_loopg [14] 1 (fun q v14 w' => v14 = .int .i64 0 ∧ q = 1 ∧ w' = w3)
 case atStart => exact ⟨rfl, rfl, rfl⟩
 case round =>
  obtain ⟨rfl, rfl, rfl⟩ := hrel
  go_wp2
  (try simp only [Exit.inBlock, Exit.then])
  refine bodyPost_ret (v := .agg #[.string ⟨#[]⟩, .string nm, .slice none 0 0]) ?_ rfl ⟨rfl, ?_⟩
  ·simp only [results]; go_simp
  ·rw [hg]; exact ((hbw.out.setCell (p := ⟨g + 1, 0, none⟩) (by show g ≤ g + 1; omega) _).setCell (p := ⟨g + 1, 1, none⟩) (by show g ≤ g + 1; omega) _).setCell (p := ⟨g + 1, 2, none⟩) (by show g ≤ g + 1; omega) _

set_option maxHeartbeats 4000000 in
set_option maxRecDepth 100000 in
theorem inx0 {B b sc : Nat} {X : Nat → Prop} {xs : List Int} (lo : ByteArray) (A : Option Addr) (n c : Nat) (fl flat : Bool) (s : ByteArray) (num : Int) (item kn vn : ByteArray) (a1 a2 a3 a4 : Option Addr) (n1 n2 n3 n4 c1 c2 c3 c4 : Nat) (w : World) (hB : 4 ≤ B) (h : JB 97 B X b xs w) (hT : Lib.Utf8Tabs 2 3 w) (h0 : lo.size ≠ 0) (hs : lo.size ≤ 9223372036854775807) (hs2 : s.size ≤ 9223372036854775807) (hl : (xs ++ xs_ s ++ [60] ++ [47] ++ xs_ lo ++ [62]).length ≤ 140737488355328) :
 Calls Tryz.prog 44 #[XV b sc lo (.slice A n c) fl, ND 0 s num (.slice a1 n1 c1) (.slice a2 n2 c2) (.slice a3 n3 c3) item kn vn (.slice a4 n4 c4), .bool flat] w fun e w' => e = .returned (.tuple #[]) ∧ Wrote 97 B X b (xs ++ xs_ s ++ [60] ++ [47] ++ xs_ lo ++ [62]) w w' ∧ Lib.Utf8Tabs 2 3 w' := by
 have hB4 := Aside0.mk hB
 have hE0 : Aside0 (EX B b X X xs w w) := .mk ⟨h, hT, Fr.refl _ _, fun _ h => h⟩
 replace hl := Aside0.mk hl
 clear h hT hB
 unfold XV ND
 go_enter Tryz.func44, Tryz.ntmps44
 go_wp2_with fail
 have hb := below_alloc (Below.refl w.heap.size w) (.cells #[.iface 95 (.pointer (some ⟨b, 0, none⟩)), .pointer (some ⟨sc, 0, none⟩), .string ⟨#[]⟩, .string lo, .slice A n c, .bool fl] 107)
 have hk0 := heap_new w (.cells #[.iface 95 (.pointer (some ⟨b, 0, none⟩)), .pointer (some ⟨sc, 0, none⟩), .string ⟨#[]⟩, .string lo, .slice A n c, .bool fl] 107)
 have hz0 : (w.alloc (.cells #[.iface 95 (.pointer (some ⟨b, 0, none⟩)), .pointer (some ⟨sc, 0, none⟩), .string ⟨#[]⟩, .string lo, .slice A n c, .bool fl] 107)).heap.size = w.heap.size + 1 := by simp
 have hE1 := Aside0.mk (hE0.out.also hb (g := w.heap.size) (Nat.le_refl _) (by simp))
 clear hb
 generalize w.alloc (.cells #[.iface 95 (.pointer (some ⟨b, 0, none⟩)), .pointer (some ⟨sc, 0, none⟩), .string ⟨#[]⟩, .string lo, .slice A n c, .bool fl] 107) = w1 at *
 obtain ⟨g, hg⟩ : ∃ g, w.heap.size = g := ⟨_, rfl⟩
 rw [hg] at hk0 hE1 hz0 ⊢
 replace hk0 := Aside0.mk hk0
 clear hE0
 have hb := below_alloc (Below.refl w1.heap.size w1) (.cells #[.int .i64 0, .string s, .int .i64 num, .slice a1 n1 c1, .slice a2 n2 c2, .slice a3 n3 c3, .string item, .string kn, .string vn, .slice a4 n4 c4] 28)
 have hk1 := heap_new w1 (.cells #[.int .i64 0, .string s, .int .i64 num, .slice a1 n1 c1, .slice a2 n2 c2, .slice a3 n3 c3, .string item, .string kn, .string vn, .slice a4 n4 c4] 28)
 have hz1 : (w1.alloc (.cells #[.int .i64 0, .string s, .int .i64 num, .slice a1 n1 c1, .slice a2 n2 c2, .slice a3 n3 c3, .string item, .string kn, .string vn, .slice a4 n4 c4] 28)).heap.size = w1.heap.size + 1 := by simp
 have hE2 := Aside0.mk (hE1.out.also hb (g := w1.heap.size) (Nat.le_refl _) (by simp))
 replace hk0 := Aside0.mk (heap_below hb hk0.out)
 clear hb
 generalize w1.alloc (.cells #[.int .i64 0, .string s, .int .i64 num, .slice a1 n1 c1, .slice a2 n2 c2, .slice a3 n3 c3, .string item, .string kn, .string vn, .slice a4 n4 c4] 28) = w2 at *
 rw [hz0] at hk1 hE2 hz1
 replace hk1 := Aside0.mk hk1
 clear hE1
 replace hz0 := Aside0.mk hz0
 replace hz1 := Aside0.mk hz1
 refine (xstring_call (sc := sc) lo A n c fl s w2 hB4.out hE2.out.jb hE2.out.d h0 hs hs2 hl.out).mono ?_
 rintro e w3 ⟨rfl, hw, _⟩
 have hE3 := Aside0.mk (hE2.out.wrote hB4.out hw)
 clear hw
 go_wp2
 refine bodyPost_end (results_none rfl _ _ _) rfl ?_
 exact ⟨rfl, Wrote.done hE3.out⟩

set_option maxRecDepth 100000 in
theorem xflat0 (t : ByteArray) (kind num : Int) (a1 a2 a4 : Option Addr) (n1 n2 n4 c1 c2 c3 c4 fa : Nat) (item kn vn : ByteArray) (z : Nat × Nat) (w : World) (hf : w.heap[fa]? = some (.cells #[.bool false] 4 z)) :
 Calls Tryz.prog 69 #[ND kind t num (.slice a1 n1 c1) (.slice a2 n2 c2) (.slice (some ⟨fa, 0, none⟩) 1 c3) item kn vn (.slice a4 n4 c4), .int .i64 0] w fun e w' => e = .returned (.bool false) ∧ Below w.heap.size w w' := by
 have hf2 := heap_old hf (.cells (NDc kind t num (.slice a1 n1 c1) (.slice a2 n2 c2) (.slice (some ⟨fa, 0, none⟩) 1 c3) item kn vn (.slice a4 n4 c4)) 28)
 have c0 := cell_at hf2 0
 unfold NDc at c0
 simp at c0
 clear hf hf2
 unfold ND
 go_enter Tryz.func69, Tryz.ntmps69
 go_wp2
 go_ret
 exact ⟨rfl, below_alloc (Below.refl _ _) _⟩
set_option maxHeartbeats 8000000 in
set_option maxRecDepth 100000 in
theorem inx1 {B b sc : Nat} {X : Nat → Prop} {xs out : List Int} (lo : ByteArray) (A : Option Addr) (n c : Nat) (fl flat : Bool) (t : ByteArray) (num : Int) (nm item kn vn : ByteArray) (na ka fa : Nat) (a4 : Option Addr) (n4 c1 c2 c3 c4 : Nat)
 (kd : Int) (s0 : ByteArray) (num0 : Int) (i0 k0 v0 : ByteArray) (d1 d2 d3 : Option Addr) (r1 r2 r3 u1 u2 u3 : Nat) (z1 z2 z3 : Nat × Nat) (w : World) (hB : 4 ≤ B) (h : JB 97 B X b xs w) (hT : Lib.Utf8Tabs 2 3 w) (h0 : lo.size ≠ 0) (hs : lo.size ≤ 9223372036854775807)
 (hnm : nm.size ≠ 0) (hnm2 : nm.size ≤ 9223372036854775807) (hl : (out ++ [60] ++ [47] ++ xs_ lo ++ [62]).length ≤ 140737488355328) (hl2 : (xs ++ [60] ++ xs_ nm ++ xats [] ++ [62]).length ≤ 140737488355328)
 (hna : w.heap[na]? = some (.cells #[.string nm] 9 z1)) (hka : w.heap[ka]? = some (.cells (NDc kd s0 num0 (.slice d1 r1 u1) (.slice d2 r2 u2) (.slice d3 r3 u3) i0 k0 v0 (.slice none 0 0)) 28 z2)) (hfa : w.heap[fa]? = some (.cells #[.bool false] 4 z3)) (hXn : na < B) (hXk : ka < B) (hXf : fa < B)
 (hkid : ∀ (Y : Nat → Prop) (w1 : World), JB 97 B Y b (xs ++ [60] ++ xs_ nm ++ xats [] ++ [62]) w1 → Lib.Utf8Tabs 2 3 w1 → Calls Tryz.prog 44 #[XV b sc nm (.slice none 0 0) false, .agg (NDc kd s0 num0 (.slice d1 r1 u1) (.slice d2 r2 u2) (.slice d3 r3 u3) i0 k0 v0 (.slice none 0 0)), .bool false] w1 fun e w' => e = .returned (.tuple #[]) ∧ Wrote 97 B Y b out w1 w' ∧ Lib.Utf8Tabs 2 3 w') :
 Calls Tryz.prog 44 #[XV b sc lo (.slice A n c) fl, .agg #[.int .i64 7, .string t, .int .i64 num, .slice (some ⟨na, 0, none⟩) 1 c1, .slice (some ⟨ka, 0, none⟩) 1 c2, .slice (some ⟨fa, 0, none⟩) 1 c3, .string item, .string kn, .string vn, .slice a4 n4 c4], .bool flat] w fun e w' => e = .returned (.tuple #[]) ∧ Wrote 97 B X b (out ++ [60] ++ [47] ++ xs_ lo ++ [62]) w w' ∧ Lib.Utf8Tabs 2 3 w' := by
 have hB4 := Aside0.mk hB
 have hBw : Aside0 (B ≤ w.heap.size) := .mk (by have := h.ge; have := h.lt; omega)
 have hlow := Aside0.mk h.low
 have hE0 : Aside0 (EX B b X X xs w w) := .mk ⟨h, hT, Fr.refl _ _, fun _ h => h⟩
 replace hl := Aside0.mk hl; replace hl2 := Aside0.mk hl2; replace hkid := Aside0.mk hkid; replace hna := Aside0.mk hna; replace hka := Aside0.mk hka; replace hfa := Aside0.mk hfa
 clear h hT hB
 unfold XV
 go_enter Tryz.func44, Tryz.ntmps44
 go_wp2_with fail
 have hb := below_alloc (Below.refl w.heap.size w) (.cells #[.iface 95 (.pointer (some ⟨b, 0, none⟩)), .pointer (some ⟨sc, 0, none⟩), .string ⟨#[]⟩, .string lo, .slice A n c, .bool fl] 107)
 have hk0 := heap_new w (.cells #[.iface 95 (.pointer (some ⟨b, 0, none⟩)), .pointer (some ⟨sc, 0, none⟩), .string ⟨#[]⟩, .string lo, .slice A n c, .bool fl] 107)
 have hz0 : (w.alloc (.cells #[.iface 95 (.pointer (some ⟨b, 0, none⟩)), .pointer (some ⟨sc, 0, none⟩), .string ⟨#[]⟩, .string lo, .slice A n c, .bool fl] 107)).heap.size = w.heap.size + 1 := by simp
 have hE1 := Aside0.mk (hE0.out.also hb (g := w.heap.size) (Nat.le_refl _) (by simp))
 clear hb
 generalize w.alloc (.cells #[.iface 95 (.pointer (some ⟨b, 0, none⟩)), .pointer (some ⟨sc, 0, none⟩), .string ⟨#[]⟩, .string lo, .slice A n c, .bool fl] 107) = w1 at *
 obtain ⟨g, hg⟩ : ∃ g, w.heap.size = g := ⟨_, rfl⟩
 rw [hg] at hk0 hE1 hz0 ⊢
 replace hk0 := Aside0.mk hk0
 clear hE0
 have hb := below_alloc (Below.refl w1.heap.size w1) (.cells #[.int .i64 7, .string t, .int .i64 num, .slice (some ⟨na, 0, none⟩) 1 c1, .slice (some ⟨ka, 0, none⟩) 1 c2, .slice (some ⟨fa, 0, none⟩) 1 c3, .string item, .string kn, .string vn, .slice a4 n4 c4] 28)
 have hk1 := heap_new w1 (.cells #[.int .i64 7, .string t, .int .i64 num, .slice (some ⟨na, 0, none⟩) 1 c1, .slice (some ⟨ka, 0, none⟩) 1 c2, .slice (some ⟨fa, 0, none⟩) 1 c3, .string item, .string kn, .string vn, .slice a4 n4 c4] 28)
 have hz1 : (w1.alloc (.cells #[.int .i64 7, .string t, .int .i64 num, .slice (some ⟨na, 0, none⟩) 1 c1, .slice (some ⟨ka, 0, none⟩) 1 c2, .slice (some ⟨fa, 0, none⟩) 1 c3, .string item, .string kn, .string vn, .slice a4 n4 c4] 28)).heap.size = w1.heap.size + 1 := by simp
 have hE2 := Aside0.mk (hE1.out.also hb (g := w1.heap.size) (Nat.le_refl _) (by simp))
 replace hk0 := Aside0.mk (heap_below hb hk0.out)
 clear hb
 generalize w1.alloc (.cells #[.int .i64 7, .string t, .int .i64 num, .slice (some ⟨na, 0, none⟩) 1 c1, .slice (some ⟨ka, 0, none⟩) 1 c2, .slice (some ⟨fa, 0, none⟩) 1 c3, .string item, .string kn, .string vn, .slice a4 n4 c4] 28) = w2 at *
 rw [hz0] at hk1 hE2 hz1
 replace hk1 := Aside0.mk hk1
 clear hE1
 replace hz0 := Aside0.mk hz0
 replace hz1 := Aside0.mk hz1
 have hkidU := hkid.out
 unfold XV NDc at hkidU
 replace hkidU := Aside0.mk hkidU
 have hna1 := Aside0.mk ((hE2.out.fr).heap hna.out (fun e => absurd e.1 (by omega)))
 have hka1 := Aside0.mk ((hE2.out.fr).heap hka.out (fun e => absurd e.1 (by omega)))
 have hfa1 := Aside0.mk ((hE2.out.fr).heap hfa.out (fun e => absurd e.1 (by omega)))
 have m := hk1.out
 have m3 := cell_at m 3; have m4 := cell_at m 4
 simp at m3 m4
 have m5 := cell_at hna1.out 0
 simp at m5
 clear m
 go_loopg [68] 2 (fun q v68 w' => (v68 = .int .i64 0 ∧ q = 2 ∧ w' = w2) ∨ (v68 = .int .i64 1 ∧ q = 1 ∧ Aside0 (EX B b X (fun k => X k ∨ k = g) out w w') ∧ Aside0 (w'.heap[g]? = some (.cells #[.iface 95 (.pointer (some ⟨b, 0, none⟩)), .pointer (some ⟨sc, 0, none⟩), .string ⟨#[]⟩, .string lo, .slice A n c, .bool fl] 107 (0, 0)))))
 case atStart => exact .inl ⟨rfl, rfl, rfl⟩
 case round =>
  rcases hrel with ⟨rfl, rfl, rfl⟩ | ⟨rfl, rfl, hE, hk⟩
  ·have hkk := hka1.out
   have p0 := cell_at hkk 0
   have p1 := cell_at hkk 1
   have p2 := cell_at hkk 2
   have p3 := cell_at hkk 3
   have p4 := cell_at hkk 4
   have p5 := cell_at hkk 5
   have p6 := cell_at hkk 6
   have p7 := cell_at hkk 7
   have p8 := cell_at hkk 8
   have p9 := cell_at hkk 9
   unfold NDc at p0 p1 p2 p3 p4 p5 p6 p7 p8 p9
   simp at p0 p1 p2 p3 p4 p5 p6 p7 p8 p9
   clear hkk
   go_wp2_with fail
   refine (xel0 nm kd s0 num0 d1 d2 d3 r1 r2 r3 u1 u2 u3 i0 k0 v0 _).mono ?_
   rintro e w3 ⟨rfl, hb⟩
   have hE2b := Aside0.mk (hE2.out.calm hb)
   have kg2 := Aside0.mk (heap_below hb hk0.out)
   have kn2 := Aside0.mk (heap_below hb hk1.out)
   have kk2 := Aside0.mk (heap_below hb hka1.out)
   have kf2 := Aside0.mk (heap_below hb hfa1.out)
   clear hb hE2 hk0 hk1 hka1 hfa1 hna1 m3 m4 m5 p0 p1 p2 p3 p4 p5 p6 p7 p8 p9
   have hb := below_alloc (Below.refl w3.heap.size w3) (.cells #[.string ⟨#[]⟩, .string nm, .slice none 0 0] 105)
   have kp3 := heap_new w3 (.cells #[.string ⟨#[]⟩, .string nm, .slice none 0 0] 105)
   have hE3 := Aside0.mk (hE2b.out.also hb (g := w3.heap.size) (Nat.le_refl _) (by simp))
   have kg3 := heap_below hb kg2.out
   have kn3 := heap_below hb kn2.out
   have kk3 := heap_below hb kk2.out
   have kf3 := heap_below hb kf2.out
   have m0 := cell_at kn3 0
   have m1 := cell_at kn3 1
   have m2 := cell_at kn3 2
   have m3 := cell_at kn3 3
   have m4 := cell_at kn3 4
   have m5 := cell_at kn3 5
   have m6 := cell_at kn3 6
   have m7 := cell_at kn3 7
   have m8 := cell_at kn3 8
   have m9 := cell_at kn3 9
   simp at m0 m1 m2 m3 m4 m5 m6 m7 m8 m9
   replace hb := Aside0.mk hb
   replace kp3 := Aside0.mk kp3
   replace kg3 := Aside0.mk kg3
   replace kn3 := Aside0.mk kn3
   replace kk3 := Aside0.mk kk3
   replace kf3 := Aside0.mk kf3
   clear hE2b kg2 kn2 kk2 kf2
   go_wp2_with fail
   obtain ⟨p, hp⟩ : ∃ p, w3.heap.size = p := ⟨_, rfl⟩
   generalize w3.alloc (.cells #[.string ⟨#[]⟩, .string nm, .slice none 0 0] 105) = w4 at *
   rw [hp] at kp3 hE3 ⊢
   clear hb hp
   refine (xflat0 t 7 num (some ⟨na, 0, none⟩) (some ⟨ka, 0, none⟩) a4 1 1 n4 c1 c2 c3 c4 fa item kn vn z3 w4 kf3.out).mono ?_
   rintro e w5 ⟨rfl, hb⟩
   have hEd := Aside0.mk (hE3.out.calm hb)
   have kg4 := heap_below hb kg3.out
   have kn4 := heap_below hb kn3.out
   have kp4 := heap_below hb kp3.out
   have kk4 := heap_below hb kk3.out
   clear hb hE3 kg3 kn3 kp3 kk3 kf3 m0 m1 m2 m3 m4 m5 m6 m7 m8 m9
   have x0 := cell_at kg4 0
   have x1 := cell_at kg4 1
   have x2 := cell_at kg4 2
   have x3 := cell_at kg4 3
   have x4 := cell_at kg4 4
   have x5 := cell_at kg4 5
   simp at x0 x1 x2 x3 x4 x5
   have y4 := cell_at kn4 4
   simp at y4
   have zp0 := cell_at kp4 0
   have zp1 := cell_at kp4 1
   have zp2 := cell_at kp4 2
   simp at zp0 zp1 zp2
   have p0 := cell_at kk4 0
   have p1 := cell_at kk4 1
   have p2 := cell_at kk4 2
   have p3 := cell_at kk4 3
   have p4 := cell_at kk4 4
   have p5 := cell_at kk4 5
   have p6 := cell_at kk4 6
   have p7 := cell_at kk4 7
   have p8 := cell_at kk4 8
   have p9 := cell_at kk4 9
   unfold NDc at p0 p1 p2 p3 p4 p5 p6 p7 p8 p9
   simp at p0 p1 p2 p3 p4 p5 p6 p7 p8 p9
   replace kg4 := Aside0.mk kg4
   replace kn4 := Aside0.mk kn4
   replace kp4 := Aside0.mk kp4
   replace kk4 := Aside0.mk kk4
   go_wp2_with fail
   go_region_held3 (fun w' => w'.cell? ⟨g + 1, 4, none⟩ = some (.slice (some ⟨ka, 0, none⟩) 1 c2) ∧ w'.cell? ⟨ka, 0, none⟩ = some (.int .i64 kd) ∧ w'.cell? ⟨ka, 1, none⟩ = some (.string s0) ∧ w'.cell? ⟨ka, 2, none⟩ = some (.int .i64 num0) ∧ w'.cell? ⟨ka, 3, none⟩ = some (.slice d1 r1 u1) ∧ w'.cell? ⟨ka, 4, none⟩ = some (.slice d2 r2 u2) ∧ w'.cell? ⟨ka, 5, none⟩ = some (.slice d3 r3 u3) ∧ w'.cell? ⟨ka, 6, none⟩ = some (.string i0) ∧ w'.cell? ⟨ka, 7, none⟩ = some (.string k0) ∧ w'.cell? ⟨ka, 8, none⟩ = some (.string v0) ∧ w'.cell? ⟨ka, 9, none⟩ = some (.slice none 0 0) ∧ w'.cell? ⟨g, 0, none⟩ = some (.iface 95 (.pointer (some ⟨b, 0, none⟩))) ∧ w'.cell? ⟨g, 1, none⟩ = some (.pointer (some ⟨sc, 0, none⟩)) ∧ w'.cell? ⟨g, 2, none⟩ = some (.string ⟨#[]⟩) ∧ w'.cell? ⟨g, 3, none⟩ = some (.string lo) ∧ w'.cell? ⟨g, 4, none⟩ = some (.slice A n c) ∧ w'.cell? ⟨g, 5, none⟩ = some (.bool fl) ∧ w'.cell? ⟨p, 0, none⟩ = some (.string ⟨#[]⟩) ∧ w'.cell? ⟨p, 1, none⟩ = some (.string nm) ∧ w'.cell? ⟨p, 2, none⟩ = some (.slice none 0 0)) (simp [*, World.cell?_setCell_far]) (first | ((go_at_call 116; refine (xmem_call (sc := sc) nm none 0 0 [] lo A n c fl _ hB4.out (hEd.out.jb.calm (drewBx _)) (Utf8Tabs_below hEd.out.d (drewBx _)) hnm hnm2 (Kd.F_nil k172 _ _) (fun a ha => nomatch ha) hl2.out).mono ?_; rintro e w5 ⟨rfl, hw, _⟩; replace hw := hw.undrew; have FR := hw.2; have kg5 := FR.heap kg4.out (fun e => e.2 (.inl (.inl (.inr rfl)))); have kn5 := FR.heap kn4.out (fun e => e.2 (.inl (.inr rfl))); have kp5 := FR.heap kp4.out (fun e => e.2 (.inr rfl)); have kk5 := FR.heap kk4.out (fun e => absurd e.1 (by omega)); have hE5 : Aside0 (EX B b X (fun k => ((X k ∨ k = g) ∨ k = g + 1) ∨ k = p) (xs ++ [60] ++ xs_ nm ++ xats [] ++ [62]) w w5) := .mk (hEd.out.wrote hB4.out hw); clear FR hw; have x0 := cell_at kg5 0; have x1 := cell_at kg5 1; have x2 := cell_at kg5 2; have x3 := cell_at kg5 3; have x4 := cell_at kg5 4; have x5 := cell_at kg5 5; simp at x0 x1 x2 x3 x4 x5; have y4 := cell_at kn5 4; simp at y4; have zp0 := cell_at kp5 0; have zp1 := cell_at kp5 1; have zp2 := cell_at kp5 2; simp at zp0 zp1 zp2; have p0 := cell_at kk5 0; have p1 := cell_at kk5 1; have p2 := cell_at kk5 2; have p3 := cell_at kk5 3; have p4 := cell_at kk5 4; have p5 := cell_at kk5 5; have p6 := cell_at kk5 6; have p7 := cell_at kk5 7; have p8 := cell_at kk5 8; have p9 := cell_at kk5 9; unfold NDc at p0 p1 p2 p3 p4 p5 p6 p7 p8 p9; simp at p0 p1 p2 p3 p4 p5 p6 p7 p8 p9; replace kg5 := Aside0.mk kg5; replace kn5 := Aside0.mk kn5; replace kp5 := Aside0.mk kp5; replace kk5 := Aside0.mk kk5; unfold XV)) | ((go_at_call 44; refine (hkidU.out _ w5 hE5.out.jb hE5.out.d).mono ?_; rintro e w6 ⟨rfl, hw, _⟩; have FR := hw.2; have kg6 := FR.heap kg5.out (fun e => e.2 (.inl (.inl (.inr rfl)))); have kn6 := FR.heap kn5.out (fun e => e.2 (.inl (.inr rfl))); have kp6 := FR.heap kp5.out (fun e => e.2 (.inr rfl)); have kk6 := FR.heap kk5.out (fun e => absurd e.1 (by omega)); have hE6 : Aside0 (EX B b X (fun k => ((X k ∨ k = g) ∨ k = g + 1) ∨ k = p) out w w6) := .mk (hE5.out.wrote hB4.out hw); clear FR hw; have x0 := cell_at kg6 0; have x1 := cell_at kg6 1; have x2 := cell_at kg6 2; have x3 := cell_at kg6 3; have x4 := cell_at kg6 4; have x5 := cell_at kg6 5; simp at x0 x1 x2 x3 x4 x5; have y4 := cell_at kn6 4; simp at y4; have zp0 := cell_at kp6 0; have zp1 := cell_at kp6 1; have zp2 := cell_at kp6 2; simp at zp0 zp1 zp2; have p0 := cell_at kk6 0; have p1 := cell_at kk6 1; have p2 := cell_at kk6 2; have p3 := cell_at kk6 3; have p4 := cell_at kk6 4; have p5 := cell_at kk6 5; have p6 := cell_at kk6 6; have p7 := cell_at kk6 7; have p8 := cell_at kk6 8; have p9 := cell_at kk6 9; unfold NDc at p0 p1 p2 p3 p4 p5 p6 p7 p8 p9; simp at p0 p1 p2 p3 p4 p5 p6 p7 p8 p9; replace kg6 := Aside0.mk kg6; replace kn6 := Aside0.mk kn6; replace kp6 := Aside0.mk kp6; replace kk6 := Aside0.mk kk6)))
   all_goals
    go_wp2_with fail
    go_roundg 1
    case rel => exact .inr ⟨rfl, rfl, ⟨hE6.out.cut (fun k hk => .inl (.inl hk)) (fun k hk => .inl hk)⟩, kg6⟩
    case measure => omega
  ·have hkk := hk.out
   have x0 := cell_at hkk 0
   have x1 := cell_at hkk 1
   have x2 := cell_at hkk 2
   have x3 := cell_at hkk 3
   have x4 := cell_at hkk 4
   have x5 := cell_at hkk 5
   simp at x0 x1 x2 x3 x4 x5
   clear hkk hE2 hk0 hk1 hka1 hfa1 hna1 m3 m4 m5
   go_wp2_with fail
   refine (xclose_call (sc := sc) lo A n c fl wr hB4.out hE.out.jb hE.out.d h0 hs hl.out).mono ?_
   rintro e w6 ⟨rfl, hw, _⟩
   have hE6 := Aside0.mk (hE.out.wrote hB4.out hw)
   clear hw
   go_wp2
   refine bodyPost_end (results_none rfl _ _ _) rfl ?_
   exact ⟨rfl, Wrote.done hE6.out⟩

end H
end Go.Proofs.YtkihaebaccdjdaaGreatDoor
