import Derived.Test.YtkihaebaccdjdaaGreatDoorX46
import Derived.Test.YtkihaebaccdjdaaGreatDoorX35
import Derived.Test.YtkihaebaccdjdaaGreatDoorX47
import Derived.Test.YtkihaebaccdjdaaGreatDoorX51
import Derived.Test.YtkihaebaccdjdaaGreatDoorX40
import Derived.Test.YtkihaebaccdjdaaGreatDoorX37
set_option linter.unusedVariables false
set_option linter.unusedSimpArgs false
namespace Go.Proofs.YtkihaebaccdjdaaGreatDoor
open Go.RowKit Go.Proofs.YtkihaebaccdjdaaGreatDoorW.PrintWords Go.Proofs.YtkihaebaccdjdaaGreatDoorW.PrintLast Go.Proofs.YtkihaebaccdjdaaGreatDoorW.PrintMore
open PX
namespace H
/-! ### isTree of a text with one attribute -/
theorem part0 (s : ByteArray) (num : Int) (a b c : ByteArray) (l : List S45) : spec_isPart.f 1 0 s num [] [] [] a b c l false = some true := by
 simp [spec_isPart.f, spec_isPart.j0, spec_isScalar.f]
set_option maxHeartbeats 8000000 in
set_option maxRecDepth 100000 in
theorem tree1 {k g q c4 : Nat} {z : Nat × Nat} {b : Bool} (s : ByteArray) (num : Int) (w : World) (hg : w.heap[g]? = some (.cells #[.int .i64 0, .int .i64 0] 50 (0, 0))) (hq : w.heap[q]? = some (.cells #[.string ⟨#[97]⟩, .string s, .bool false] 45 z)) (hne : q ≠ g)
 (h1 : s.size ≤ 5000) (hc4 : 1 ≤ c4) (hin : spec_inXMLs.f k 0 s num [] [] [] ⟨#[]⟩ ⟨#[]⟩ ⟨#[]⟩ [⟨⟨#[97]⟩, s, false⟩] false = some b) :
 Calls Tryz.prog 25 #[.pointer (some ⟨g, 0, none⟩), ND 0 s num (.slice none 0 0) (.slice none 0 0) (.slice none 0 0) ⟨#[]⟩ ⟨#[]⟩ ⟨#[]⟩ (.slice (some ⟨q, 0, none⟩) 1 c4), .bool false, .int .i64 7, .func (.func 26) #[] #[]] w fun e w' => e = .returned (.bool b) ∧ Fr (fun k => k = g) w w' := by
 have hb := below_alloc (Below.refl w.heap.size w) (.cells #[.int .i64 0, .string s, .int .i64 num, .slice none 0 0, .slice none 0 0, .slice none 0 0, .string ⟨#[]⟩, .string ⟨#[]⟩, .string ⟨#[]⟩, .slice (some ⟨q, 0, none⟩) 1 c4] 28)
 have kn := heap_new w (.cells #[.int .i64 0, .string s, .int .i64 num, .slice none 0 0, .slice none 0 0, .slice none 0 0, .string ⟨#[]⟩, .string ⟨#[]⟩, .string ⟨#[]⟩, .slice (some ⟨q, 0, none⟩) 1 c4] 28)
 have kg := heap_below hb hg
 have kq := heap_below hb hq
 have ng : Aside0 (w.heap.size ≠ g) := .mk (by have := lt_of hg; omega)
 have hF1 := Aside0.mk (Fr.of_below (S := fun k => k = g) hb)
 have hlq := Aside0.mk (lt_of hq)
 replace kn := Aside0.mk kn; replace kg := Aside0.mk kg; replace kq := Aside0.mk kq; replace hin := Aside0.mk hin
 clear hg hq hb
 have ht := fun w1 a b => take1x (g := g) (q := q) (c4 := c4) (z := z) s s num false w1 a b hne h1 h1 hc4
 unfold ND at ht ⊢
 replace ht := Aside0.mk ht
 go_enter Tryz.func25, Tryz.ntmps25
 go_wp2_with fail
 generalize w.alloc (.cells #[.int .i64 0, .string s, .int .i64 num, .slice none 0 0, .slice none 0 0, .slice none 0 0, .string ⟨#[]⟩, .string ⟨#[]⟩, .string ⟨#[]⟩, .slice (some ⟨q, 0, none⟩) 1 c4] 28) = w1 at *
 obtain ⟨nb, hnb⟩ : ∃ nb, w.heap.size = nb := ⟨_, rfl⟩
 rw [hnb] at kn ng hlq ⊢
 have m0 := cell_at kn.out 0
 have m1 := cell_at kn.out 1
 have m2 := cell_at kn.out 2
 have m3 := cell_at kn.out 3
 have m4 := cell_at kn.out 4
 have m5 := cell_at kn.out 5
 have m6 := cell_at kn.out 6
 have m7 := cell_at kn.out 7
 have m8 := cell_at kn.out 8
 have m9 := cell_at kn.out 9
 simp at m0 m1 m2 m3 m4 m5 m6 m7 m8 m9
 go_wp2_with fail
 refine (ht.out w1 kg.out kq.out).mono ?_
 rintro e w2 ⟨rfl, hF⟩
 have kn2 := Aside0.mk (hF.heap kn.out ng.out)
 have kq2 := Aside0.mk (hF.heap kq.out hne)
 have hF2 := Aside0.mk (hF1.out.trans hF (fun _ _ h => h))
 clear hF hF1 ht m0 m1 m2 m3 m4 m5 m6 m7 m8 m9
 have m0 := cell_at kn2.out 0
 have m1 := cell_at kn2.out 1
 have m2 := cell_at kn2.out 2
 have m3 := cell_at kn2.out 3
 have m4 := cell_at kn2.out 4
 have m5 := cell_at kn2.out 5
 have m6 := cell_at kn2.out 6
 have m7 := cell_at kn2.out 7
 have m8 := cell_at kn2.out 8
 have m9 := cell_at kn2.out 9
 simp at m0 m1 m2 m3 m4 m5 m6 m7 m8 m9
 go_wp2_with fail
 have hp := spec_isPart.calls 1 0 s num none 0 [] none 0 [] none 0 [] ⟨#[]⟩ ⟨#[]⟩ ⟨#[]⟩ (some ⟨q, 0, none⟩) c4 [⟨⟨#[97]⟩, s, false⟩] false true w2 (Kd.C_nil _ _) (Nat.le_refl _) (Kd.C_nil _ _) (Nat.le_refl _) (Kd.C_nil _ _) (Nat.le_refl _) (row1 _ _ _ kq2.out) hc4 (part0 s num _ _ _ _)
 refine hp.mono ?_
 rintro e w3 ⟨rfl, hb3⟩
 have kn3 := Aside0.mk (heap_below hb3 kn2.out)
 have kq3 := Aside0.mk (heap_below hb3 kq2.out)
 have hF3 := Aside0.mk (hF2.out.trans (Fr.of_below (S := fun _ => False) hb3) (fun _ _ h => h.elim))
 clear hp hb3 m0 m1 m2 m3 m4 m5 m6 m7 m8 m9
 have m0 := cell_at kn3.out 0
 have m1 := cell_at kn3.out 1
 have m2 := cell_at kn3.out 2
 have m3 := cell_at kn3.out 3
 have m4 := cell_at kn3.out 4
 have m5 := cell_at kn3.out 5
 have m6 := cell_at kn3.out 6
 have m7 := cell_at kn3.out 7
 have m8 := cell_at kn3.out 8
 have m9 := cell_at kn3.out 9
 simp at m0 m1 m2 m3 m4 m5 m6 m7 m8 m9
 go_wp2_with fail
 have hi := spec_inXMLs.calls k 0 s num none 0 [] none 0 [] none 0 [] ⟨#[]⟩ ⟨#[]⟩ ⟨#[]⟩ (some ⟨q, 0, none⟩) c4 [⟨⟨#[97]⟩, s, false⟩] false b w3 (Kd.C_nil _ _) (Nat.le_refl _) (Kd.C_nil _ _) (Nat.le_refl _) (Kd.C_nil _ _) (Nat.le_refl _) (row1 _ _ _ kq3.out) hc4 hin.out
 refine hi.mono ?_
 rintro e w4 ⟨rfl, hb4⟩
 have kn4 := Aside0.mk (heap_below hb4 kn3.out)
 have hF4 := Aside0.mk (hF3.out.trans (Fr.of_below (S := fun _ => False) hb4) (fun _ _ h => h.elim))
 clear hi hb4 m0 m1 m2 m3 m4 m5 m6 m7 m8 m9
 have m0 := cell_at kn4.out 0
 have m1 := cell_at kn4.out 1
 have m2 := cell_at kn4.out 2
 have m3 := cell_at kn4.out 3
 have m4 := cell_at kn4.out 4
 have m5 := cell_at kn4.out 5
 have m6 := cell_at kn4.out 6
 have m7 := cell_at kn4.out 7
 have m8 := cell_at kn4.out 8
 have m9 := cell_at kn4.out 9
 simp at m0 m1 m2 m3 m4 m5 m6 m7 m8 m9
 cases b
 ·go_wp2
  go_ret
  exact ⟨rfl, hF4.out⟩
 ·go_wp2_with fail
  go_loopg [37] 1 (fun q' v37 w' => q' = 1 ∧ v37 = .int .i64 0 ∧ w' = w4)
  case atStart => exact ⟨rfl, rfl, rfl⟩
  case round =>
   obtain ⟨rfl, rfl, rfl⟩ := hrel
   go_wp2
   go_ret
   exact ⟨rfl, hF4.out⟩
end H
end Go.Proofs.YtkihaebaccdjdaaGreatDoor
set_option linter.unusedVariables false
set_option linter.unusedSimpArgs false
namespace Go.Proofs.YtkihaebaccdjdaaGreatDoor
open Go.RowKit Go.Proofs.YtkihaebaccdjdaaGreatDoorW.PrintWords Go.Proofs.YtkihaebaccdjdaaGreatDoorW.PrintLast Go.Proofs.YtkihaebaccdjdaaGreatDoorW.PrintMore
open PX
namespace H
/-! ### IsXML of a text with one attribute -/
set_option maxHeartbeats 8000000 in
set_option maxRecDepth 100000 in
theorem isXML1 {k k2 q c4 : Nat} {z : Nat × Nat} {wd b : Bool} (name s : ByteArray) (num : Int) (w : World) (hq : w.heap[q]? = some (.cells #[.string ⟨#[97]⟩, .string s, .bool false] 45 z))
 (h1 : s.size ≤ 5000) (hc4 : 1 ≤ c4) (hw : spec_isWord.f k2 name = some wd) (hin : spec_inXMLs.f k 0 s num [] [] [] ⟨#[]⟩ ⟨#[]⟩ ⟨#[]⟩ [⟨⟨#[97]⟩, s, false⟩] false = some b) :
 Calls Tryz.prog 9 #[.string name, ND 0 s num (.slice none 0 0) (.slice none 0 0) (.slice none 0 0) ⟨#[]⟩ ⟨#[]⟩ ⟨#[]⟩ (.slice (some ⟨q, 0, none⟩) 1 c4)] w fun e w' => e = .returned (.bool (wd && b)) ∧ Below w.heap.size w w' := by
 have hb := below_alloc (Below.refl w.heap.size w) (.cells #[.int .i64 0, .string s, .int .i64 num, .slice none 0 0, .slice none 0 0, .slice none 0 0, .string ⟨#[]⟩, .string ⟨#[]⟩, .string ⟨#[]⟩, .slice (some ⟨q, 0, none⟩) 1 c4] 28)
 have kn := Aside0.mk (heap_new w (.cells #[.int .i64 0, .string s, .int .i64 num, .slice none 0 0, .slice none 0 0, .slice none 0 0, .string ⟨#[]⟩, .string ⟨#[]⟩, .string ⟨#[]⟩, .slice (some ⟨q, 0, none⟩) 1 c4] 28))
 have kq := Aside0.mk (heap_below hb hq)
 replace hb := Aside0.mk hb
 have hiw := Aside0.mk (fun w => spec_isWord.calls k2 name wd w hw)
 replace hin := Aside0.mk hin
 clear hq hw
 have ht := fun (g : Nat) w1 a b hne => tree1 (k := k) (g := g) (q := q) (c4 := c4) (z := z) s num w1 a b hne h1 hc4 hin.out
 unfold ND at ht ⊢
 replace ht := Aside0.mk ht
 go_enter Tryz.func9, Tryz.ntmps9
 go_wp2_with fail
 generalize w.alloc (.cells #[.int .i64 0, .string s, .int .i64 num, .slice none 0 0, .slice none 0 0, .slice none 0 0, .string ⟨#[]⟩, .string ⟨#[]⟩, .string ⟨#[]⟩, .slice (some ⟨q, 0, none⟩) 1 c4] 28) = w1 at *
 obtain ⟨nb, hnb⟩ : ∃ nb, w.heap.size = nb := ⟨_, rfl⟩
 rw [hnb] at kn ⊢
 refine (hiw.out w1).mono ?_
 rintro e w2 ⟨rfl, hd⟩
 have hb2 := hd.below
 have hB2 := below_then hb.out hb.out.size hb2
 have kn2 := Aside0.mk (heap_below hb2 kn.out)
 have kq2 := Aside0.mk (heap_below hb2 kq.out)
 clear hb2 hd hb kn kq hiw
 cases wd
 ·replace hB2 := Aside0.mk hB2
  go_wp2
  go_ret
  exact ⟨rfl, by rw [← hnb] at *; exact hB2.out⟩
 ·have kg3 := heap_new w2 (.cells #[.int .i64 0, .int .i64 0] 50)
  have kq3 := Aside0.mk (heap_old kq2.out (.cells #[.int .i64 0, .int .i64 0] 50))
  have kn3 := heap_old kn2.out (.cells #[.int .i64 0, .int .i64 0] 50)
  have hB3 := Aside0.mk (below_alloc hB2 (.cells #[.int .i64 0, .int .i64 0] 50))
  have hqn : q ≠ w2.heap.size := by have := lt_of kq2.out; omega
  have hgz : Aside0 (w.heap.size ≤ w2.heap.size) := .mk hB2.size
  replace kg3 := Aside0.mk kg3; replace hqn := Aside0.mk hqn
  have m0 := cell_at kn3 0
  have m1 := cell_at kn3 1
  have m2 := cell_at kn3 2
  have m3 := cell_at kn3 3
  have m4 := cell_at kn3 4
  have m5 := cell_at kn3 5
  have m6 := cell_at kn3 6
  have m7 := cell_at kn3 7
  have m8 := cell_at kn3 8
  have m9 := cell_at kn3 9
  simp at m0 m1 m2 m3 m4 m5 m6 m7 m8 m9
  replace kn3 := Aside0.mk kn3
  clear kn2 kq2 hB2
  go_wp2_with fail
  generalize w2.alloc (.cells #[.int .i64 0, .int .i64 0] 50) = w3 at *
  obtain ⟨g, hg⟩ : ∃ g, w2.heap.size = g := ⟨_, rfl⟩
  rw [hg] at kg3 hqn hgz ⊢
  refine (ht.out g w3 kg3.out kq3.out hqn.out).mono ?_
  rintro e w4 ⟨rfl, hF⟩
  have hB4 := Aside0.mk (hB3.out.trans (hF.below (B := w.heap.size) hB3.out.size (fun k _ hk => by have h2 := hgz.out; have h3 : k = g := hk; omega)))
  clear hF
  go_wp2
  go_ret
  exact ⟨by simp, by rw [← hnb] at *; exact hB4.out⟩
end H
end Go.Proofs.YtkihaebaccdjdaaGreatDoor
set_option linter.unusedVariables false
set_option linter.unusedSimpArgs false
namespace Go.Proofs.YtkihaebaccdjdaaGreatDoor
open Go.RowKit Go.Proofs.YtkihaebaccdjdaaGreatDoorW.PrintWords Go.Proofs.YtkihaebaccdjdaaGreatDoorW.PrintLast Go.Proofs.YtkihaebaccdjdaaGreatDoorW.PrintMore
open PX
namespace H
/-! ### inXMLs of a text with one attribute (plain) -/
theorem word_a (k : Nat) : spec_isWord.f (k + 2) ⟨#[97]⟩ = some true := by
 have h0 : bt (⟨#[97]⟩ : ByteArray) 0 = 97 := by decide
 have e : wrap64 (0 + 1) = 1 := by unfold wrap64; omega
 have ht : ¬ (⟨#[97]⟩ : ByteArray).toList = ([] : List UInt8) := by simp [ByteArray.toList_eq]
 unfold spec_isWord.f
 rw [spec_isWord.l0, if_pos (by decide), if_pos (by decide), if_pos (by decide), h0, if_pos (by decide), if_pos (by decide), e, spec_isWord.l0, if_neg (by decide), if_neg ht]
 rfl
theorem small_a : spec_small.f ⟨#[97]⟩ = some ⟨#[97]⟩ := by
 unfold spec_small.f
 rw [if_pos (by decide)]
 congr 1
theorem beg_a : spec_Begins.f ⟨#[97]⟩ (⟨#[120, 109, 108]⟩ : ByteArray) = some false := begins_f _ _ (fun h => absurd h.1 (by decide))
theorem inx_f (s : ByteArray) (num : Int) (hs : s.size ≤ 2147483647) : spec_inXMLs.f 12 0 s num [] [] [] ⟨#[]⟩ ⟨#[]⟩ ⟨#[]⟩ [⟨⟨#[97]⟩, s, false⟩] false = some (runes charB (s.size + 1) (bytesOf s)) := by
 obtain ⟨R, hR⟩ : ∃ R, runes charB (s.size + 1) (bytesOf s) = R := ⟨_, rfl⟩
 have ha : spec_areChars.f s = some R := by unfold spec_areChars.f; rw [if_pos hs, hR]
 rw [hR]
 cases R with
 | false => simp [spec_inXMLs.f, spec_inXMLs.j0, ha]
 | true =>
   have hw := word_a 5
   have hw2 := word_a 6
   have hw4 := word_a 4
   have hu : ∀ k, spec_areUnlike.f k [(⟨#[97]⟩ : ByteArray)] = some true := fun k => by simp [spec_areUnlike.f]
   simp [spec_inXMLs.f, spec_inXMLs.j0, spec_inXMLs.j3, spec_inXMLs.l1, spec_inXMLs.j5, rd_T45, wrap64, ha, hw, hw2, hw4, small_a, beg_a, hu]
end H
end Go.Proofs.YtkihaebaccdjdaaGreatDoor
set_option linter.unusedVariables false
set_option linter.unusedSimpArgs false
namespace Go.Proofs.YtkihaebaccdjdaaGreatDoor
open Go.RowKit Go.Proofs.YtkihaebaccdjdaaGreatDoorW.PrintWords Go.Proofs.YtkihaebaccdjdaaGreatDoorW.PrintLast Go.Proofs.YtkihaebaccdjdaaGreatDoorW.PrintMore
open PX
namespace H
/-! ### laws.FnXMLText -/
set_option maxHeartbeats 8000000 in
set_option maxRecDepth 100000 in
theorem fnXMLText (name s : ByteArray) (w : World) (hT : Tab w) (hU : Lib.Utf8Tabs 2 3 w) (h4 : 4 ≤ w.heap.size) :
 Calls Tryz.prog 8 #[.string name, .string s] w fun e w' => e = .returned (.bool true) ∧ Below w.heap.size w w' := by
 by_cases hz : 2147483647 < name.size
 ·have hzI : (2147483647 : Int) < (name.size : Int) := by omega
  replace hT := Aside0.mk hT; replace hU := Aside0.mk hU; replace h4 := Aside0.mk h4
  go_enter Tryz.func8, Tryz.ntmps8
  go_wp2
  go_ret
  exact ⟨rfl, Below.refl _ _⟩
 have hzI : ¬ ((2147483647 : Int) < (name.size : Int)) := by omega
 by_cases hy : 2147483647 < s.size
 ·have hyI : (2147483647 : Int) < (s.size : Int) := by omega
  replace hT := Aside0.mk hT; replace hU := Aside0.mk hU; replace h4 := Aside0.mk h4
  go_enter Tryz.func8, Tryz.ntmps8
  go_wp2
  go_ret
  exact ⟨rfl, Below.refl _ _⟩
 have hyI : ¬ ((2147483647 : Int) < (s.size : Int)) := by omega
 have hb := below_alloc (below_alloc (Below.refl w.heap.size w) (.cells #[.string ⟨#[97]⟩, .string s, .bool false] 45)) (.cells #[.int .i64 0, .string s, .int .i64 0, .slice none 0 0, .slice none 0 0, .slice none 0 0, .string ⟨#[]⟩, .string ⟨#[]⟩, .string ⟨#[]⟩, .slice (some ⟨w.heap.size, 0, none⟩) 1 1] 28)
 have kq := heap_old (heap_new w (.cells #[.string ⟨#[97]⟩, .string s, .bool false] 45)) (.cells #[.int .i64 0, .string s, .int .i64 0, .slice none 0 0, .slice none 0 0, .slice none 0 0, .string ⟨#[]⟩, .string ⟨#[]⟩, .string ⟨#[]⟩, .slice (some ⟨w.heap.size, 0, none⟩) 1 1] 28)
 have kn := heap_new (w.alloc (.cells #[.string ⟨#[97]⟩, .string s, .bool false] 45)) (.cells #[.int .i64 0, .string s, .int .i64 0, .slice none 0 0, .slice none 0 0, .slice none 0 0, .string ⟨#[]⟩, .string ⟨#[]⟩, .string ⟨#[]⟩, .slice (some ⟨w.heap.size, 0, none⟩) 1 1] 28)
 have hzz : (w.alloc (.cells #[.string ⟨#[97]⟩, .string s, .bool false] 45)).heap.size = w.heap.size + 1 := by simp
 rw [hzz] at kn
 have hT1 := Aside0.mk (hT.below hb); have hU1 := Aside0.mk (Utf8Tabs_below hU hb); have h41 := Aside0.mk (Nat.le_trans h4 hb.size)
 clear hT hU h4
 replace hb := Aside0.mk hb; replace kq := Aside0.mk kq; replace kn := Aside0.mk kn
 by_cases h5 : 5000 < s.size
 ·have h5I : (5000 : Int) < (s.size : Int) := by omega
  go_enter Tryz.func8, Tryz.ntmps8
  go_wp2_with fail
  refine (boworks _ hT1.out hU1.out h41.out).mono ?_
  rintro e w1 ⟨rfl, hF⟩
  have hF1 := Aside0.mk (below_then hb.out hb.out.size hF.bel)
  clear hF
  go_wp2
  go_ret
  exact ⟨rfl, hF1.out⟩
 have h5I : ¬ ((5000 : Int) < (s.size : Int)) := by omega
 obtain ⟨wd, hwf, hwd⟩ := word_f name (by omega)
 have hix := inx_f s 0 (by omega)
 obtain ⟨R, hR⟩ : ∃ R, runes charB (s.size + 1) (bytesOf s) = R := ⟨_, rfl⟩
 rw [hR] at hix
 have hxm := fun (q : Nat) (w : World) h => isXML1 (q := q) (c4 := 1) (z := (0, 0)) name s 0 w h (by omega) (Nat.le_refl _) hwf hix
 unfold ND at hxm
 by_cases hv : (wd && R) = true
 case neg =>
  rw [Bool.eq_false_iff.2 hv] at hxm
  replace hxm := Aside0.mk hxm
  clear hwf hwd hix hR hv
  go_enter Tryz.func8, Tryz.ntmps8
  go_wp2_with fail
  refine (hxm.out w.heap.size _ kq.out).mono ?_
  rintro e w2 ⟨rfl, hb2⟩
  have hB2 := Aside0.mk (below_then hb.out hb.out.size hb2)
  have hT2 := Aside0.mk (hT1.out.below hb2); have hU2 := Aside0.mk (Utf8Tabs_below hU1.out hb2); have h42 := Aside0.mk (Nat.le_trans h41.out hb2.size)
  clear hb2
  go_wp2_with fail
  refine (boworks w2 hT2.out hU2.out h42.out).mono ?_
  rintro e w3 ⟨rfl, hF⟩
  have hF1 := Aside0.mk (below_then hB2.out hB2.out.size hF.bel)
  clear hF
  go_wp2
  go_ret
  exact ⟨rfl, hF1.out⟩
 rw [hv] at hxm
 obtain ⟨rfl, rfl⟩ : wd = true ∧ R = true := by simpa using hv
 have hn := hwd rfl
 obtain ⟨hX, hU8, hby⟩ := xt_bytes name s hn.2.2 (U8.of_runes _ _ (bytes_rng s) hR)
 have hlen := xt_len name s hn.2.1 (by omega)
 have hosz : (strOfNums (xtext name s)).size ≤ 100000 := by
  have : (strOfNums (xtext name s)).size = (xtext name s).length := by rw [← bytesOf_length]; unfold bytesOf; rw [strOfNums_data]; simp
  omega
 obtain ⟨rs', hel, hrn⟩ := elem_f hX 0 ⟨#[]⟩ ⟨#[]⟩ ⟨#[]⟩ hby (by omega) (by omega)
 have hej := fun (q : Nat) (w : World) hU h4 h => exText (q := q) (c4 := 1) (z := (0, 0)) name s 0 ⟨#[]⟩ ⟨#[]⟩ ⟨#[]⟩ w hU h4 hn.1 (by omega) (by omega) (by omega) h (Nat.le_refl _)
 have hsj := fun (q : Nat) (w : World) h => saysX 0 ⟨#[]⟩ ⟨#[]⟩ ⟨#[]⟩ (some ⟨q, 0, none⟩) 1 [⟨⟨#[97]⟩, s, false⟩] w hU8 (by omega) (row1 (z := (0, 0)) _ _ _ h) (Nat.le_refl _) hel hrn
 unfold ND at hej hsj
 generalize strOfNums (xtext name s) = o at *
 replace hxm := Aside0.mk hxm; replace hej := Aside0.mk hej; replace hsj := Aside0.mk hsj
 clear hwf hwd hix hR hv hn hX hU8 hby hlen hosz hel hrn
 go_enter Tryz.func8, Tryz.ntmps8
 go_wp2_with fail
 refine (hxm.out w.heap.size _ kq.out).mono ?_
 rintro e w3 ⟨rfl, hb2⟩
 have hF3 : Aside0 (Fr (fun k => w.heap.size ≤ k) w w3) := .mk (Fr.of_below (below_then hb.out hb.out.size hb2))
 have hT3 := Aside0.mk (hT1.out.below hb2); have hU3 := Aside0.mk (Utf8Tabs_below hU1.out hb2); have h43 := Aside0.mk (Nat.le_trans h41.out hb2.size)
 have kn3 := heap_below hb2 kn.out
 have kq3 := Aside0.mk (heap_below hb2 kq.out)
 clear hb2 hb hT1 hU1 h41 kn kq hxm
 obtain ⟨q, hqq⟩ : ∃ q, w.heap.size = q := ⟨_, rfl⟩
 obtain ⟨nb, hnb⟩ : ∃ nb, q + 1 = nb := ⟨_, rfl⟩
 rw [hqq] at kn3 kq3 ⊢
 rw [hnb] at kn3 ⊢
 have n0 := cell_at kn3 0
 have n1 := cell_at kn3 1
 have n2 := cell_at kn3 2
 have n3 := cell_at kn3 3
 have n4 := cell_at kn3 4
 have n5 := cell_at kn3 5
 have n6 := cell_at kn3 6
 have n7 := cell_at kn3 7
 have n8 := cell_at kn3 8
 have n9 := cell_at kn3 9
 simp at n0 n1 n2 n3 n4 n5 n6 n7 n8 n9
 replace kn3 := Aside0.mk kn3
 go_wp2_with fail
 go_region_held3 (fun w' => w'.cell? ⟨nb, 0, none⟩ = some (.int .i64 0) ∧ w'.cell? ⟨nb, 1, none⟩ = some (.string s) ∧ w'.cell? ⟨nb, 2, none⟩ = some (.int .i64 0) ∧ w'.cell? ⟨nb, 3, none⟩ = some (.slice none 0 0) ∧ w'.cell? ⟨nb, 4, none⟩ = some (.slice none 0 0) ∧ w'.cell? ⟨nb, 5, none⟩ = some (.slice none 0 0) ∧ w'.cell? ⟨nb, 6, none⟩ = some (.string ⟨#[]⟩) ∧ w'.cell? ⟨nb, 7, none⟩ = some (.string ⟨#[]⟩) ∧ w'.cell? ⟨nb, 8, none⟩ = some (.string ⟨#[]⟩) ∧ w'.cell? ⟨nb, 9, none⟩ = some (.slice (some ⟨q, 0, none⟩) 1 1)) (simp [*, World.cell?_setCell_far]) (first | ((go_at_call 10; refine (boworks w3.drew (hT3.out.below (drewBx _)) (Utf8Tabs_below hU3.out (drewBx _)) h43.out).mono ?_; rintro e w4 ⟨rfl, hF⟩; replace hF := undrewF hF; have hF4 := Aside0.mk (hF3.out.trans hF (fun k _ h => by have h1 := hF3.out.size; have h2 : w3.heap.size ≤ k := h; omega)); have hU4 := Aside0.mk (tabs_fr hU3.out hF (fun h => by have h2 : w3.heap.size ≤ 2 := h; have := h43.out; omega) (fun h => by have h2 : w3.heap.size ≤ 3 := h; have := h43.out; omega)); have h44 : Aside0 (4 ≤ w4.heap.size) := .mk (Nat.le_trans h43.out hF.size); have kn4 := hF.heap kn3.out (fun e => by have h1 := lt_of kn3.out; have h2 : w3.heap.size ≤ nb := e; omega); have n0 := cell_at kn4 0; have n1 := cell_at kn4 1; have n2 := cell_at kn4 2; have n3 := cell_at kn4 3; have n4 := cell_at kn4 4; have n5 := cell_at kn4 5; have n6 := cell_at kn4 6; have n7 := cell_at kn4 7; have n8 := cell_at kn4 8; have n9 := cell_at kn4 9; simp at n0 n1 n2 n3 n4 n5 n6 n7 n8 n9; have kq4 := Aside0.mk (hF.heap kq3.out (fun e => by have h1 := lt_of kq3.out; have h2 : w3.heap.size ≤ q := e; omega)); replace kn4 := Aside0.mk kn4; clear hF)) | ((go_at_call 18; refine (hej.out q w4 hU4.out h44.out kq4.out).mono ?_; rintro e w5 ⟨rfl, hF⟩; have hF5 := Aside0.mk (hF4.out.trans hF (fun k _ h => by have h1 := hF4.out.size; have h2 : w4.heap.size ≤ k := h; omega)); have kn5 := hF.heap kn4.out (fun e => by have h1 := lt_of kn4.out; have h2 : w4.heap.size ≤ nb := e; omega); have n0 := cell_at kn5 0; have n1 := cell_at kn5 1; have n2 := cell_at kn5 2; have n3 := cell_at kn5 3; have n4 := cell_at kn5 4; have n5 := cell_at kn5 5; have n6 := cell_at kn5 6; have n7 := cell_at kn5 7; have n8 := cell_at kn5 8; have n9 := cell_at kn5 9; simp at n0 n1 n2 n3 n4 n5 n6 n7 n8 n9; have kq5 := Aside0.mk (hF.heap kq4.out (fun e => by have h1 := lt_of kq4.out; have h2 : w4.heap.size ≤ q := e; omega)); replace kn5 := Aside0.mk kn5; clear hF)) | ((go_at_call 17; refine (hsj.out q w5 kq5.out).mono ?_; rintro e w6 ⟨rfl, hb⟩; have hF6 := Aside0.mk (hF5.out.trans (Fr.of_below (S := fun _ => False) hb) (fun _ _ h => h.elim)); have kn6 := heap_below hb kn5.out; have n0 := cell_at kn6 0; have n1 := cell_at kn6 1; have n2 := cell_at kn6 2; have n3 := cell_at kn6 3; have n4 := cell_at kn6 4; have n5 := cell_at kn6 5; have n6 := cell_at kn6 6; have n7 := cell_at kn6 7; have n8 := cell_at kn6 8; have n9 := cell_at kn6 9; simp at n0 n1 n2 n3 n4 n5 n6 n7 n8 n9; clear hb kn6)))
 all_goals
  go_wp2
  go_ret
  exact ⟨rfl, by rw [← hqq] at *; exact hF6.out.bel⟩
end H
end Go.Proofs.YtkihaebaccdjdaaGreatDoor
