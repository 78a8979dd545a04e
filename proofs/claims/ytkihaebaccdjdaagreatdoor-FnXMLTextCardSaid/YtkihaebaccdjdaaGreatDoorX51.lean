import Derived.Test.YtkihaebaccdjdaaGreatDoorX5
import Derived.Test.YtkihaebaccdjdaaGreatDoorX30
import Derived.Test.YtkihaebaccdjdaaGreatDoorX36
import Derived.Test.YtkihaebaccdjdaaGreatDoorX48
import Derived.Test.YtkihaebaccdjdaaGreatDoorX49
import Derived.Test.YtkihaebaccdjdaaGreatDoorX50
namespace Go.Proofs.YtkihaebaccdjdaaGreatDoor.PX
open Go.RowKit Go.Proofs.YtkihaebaccdjdaaGreatDoorW.PrintWords Go.Proofs.YtkihaebaccdjdaaGreatDoorW.PrintLast Go.Proofs.YtkihaebaccdjdaaGreatDoorW.PrintMore
attribute [local go_sem] max2_int min2_int max_two min_two max_three min_three max_four min_four   -- for this text's walks alone
set_option linter.unusedVariables false
set_option linter.unusedSimpArgs false

/-! ### spec_inXMLs: function 26 -/
mutual
def spec_inXMLs.j3 : Nat → Int → ByteArray → Int → List ByteArray → List (S28) → List Bool → ByteArray → ByteArray → ByteArray → List (S45) → Option (Bool)
 | 0, _, _, _, _, _, _, _, _, _, _ => none
 | k + 1, x473000, x473001, x473002, x473003, x473004, x473005, x473006, x473007, x473008, x473009 => spec_inXMLs.l1 k (([] : List ByteArray)) x473009 (x473009.length : Int) 0
def spec_inXMLs.l1 : Nat → List ByteArray → List (S45) → Int → Int → Option (Bool)
 | 0, _, _, _, _ => none
 | k + 1, x7, x79, x80, x81 => if x81 < x80 then (if 0 ≤ x81 then (if x81 < (x79.length : Int) then (if (rd_T45 x79 x81).f2 = true then (if 6 + ((rd_T45 x79 x81).f0).size ≤ 9223372036854775807 then (spec_inXMLs.j5 k x7 ((⟨#[120, 109, 108, 110, 115, 58]⟩ : ByteArray) ++ ((rd_T45 x79 x81).f0)) x79 x80 x81 ((rd_T45 x79 x81).f0) ((rd_T45 x79 x81).f1) ((rd_T45 x79 x81).f2)) else (none)) else (spec_inXMLs.j5 k x7 ((rd_T45 x79 x81).f0) x79 x80 x81 ((rd_T45 x79 x81).f0) ((rd_T45 x79 x81).f1) ((rd_T45 x79 x81).f2))) else (none)) else (none)) else ((spec_areUnlike.f k x7).bind fun t484 => (some t484))
def spec_inXMLs.j5 : Nat → List ByteArray → ByteArray → List (S45) → Int → Int → ByteArray → ByteArray → Bool → Option (Bool)
 | 0, _, _, _, _, _, _, _, _ => none
 | k + 1, x7, x10, x79, x80, x81, x487000, x487001, x487002 => if x7.length < 8796093022208 then ((some (x7 ++ [x10] : List ByteArray)).bind fun y487 => ((spec_isWord.f k x487000).bind fun t490 => (if t490 = true then ((spec_small.f x487000).bind fun t491 => ((spec_Begins.f t491 (⟨#[120, 109, 108]⟩ : ByteArray)).bind fun t492 => (if t492 = true then (some false) else ((spec_areChars.f x487001).bind fun t493 => (if t493 = true then (if x487002 = true then (if x487001.toList = ([] : List UInt8) then (some false) else (spec_inXMLs.l1 k y487 x79 x80 (wrap64 (x81 + 1)))) else (spec_inXMLs.l1 k y487 x79 x80 (wrap64 (x81 + 1)))) else (some false)))))) else (some false)))) else (none)
def spec_inXMLs.j0 : Nat → Bool → Int → Bool → Int → ByteArray → Int → List ByteArray → List (S28) → List Bool → ByteArray → ByteArray → ByteArray → List (S45) → Option (Bool)
 | 0, _, _, _, _, _, _, _, _, _, _, _, _, _ => none
 | k + 1, x1, x12, x13, x473000, x473001, x473002, x473003, x473004, x473005, x473006, x473007, x473008, x473009 => if x13 = true then (some false) else (if x12 = 0 then ((spec_areChars.f x473001).bind fun t473 => (if t473 = true then (spec_inXMLs.j3 k x473000 x473001 x473002 x473003 x473004 x473005 x473006 x473007 x473008 x473009) else (some false))) else (if x12 = 7 then ((spec_areWords.f k x473003).bind fun t474 => (if t474 = true then (spec_inXMLs.j3 k x473000 x473001 x473002 x473003 x473004 x473005 x473006 x473007 x473008 x473009) else (some false))) else (if x12 = 8 then (if x1 = true then (if x473006.toList = ([] : List UInt8) then ((spec_hasLists.f k x473000 x473001 x473002 x473003 x473004 x473005 x473006 x473007 x473008 x473009).bind fun t475 => (if t475 = true then (some false) else (spec_inXMLs.j3 k x473000 x473001 x473002 x473003 x473004 x473005 x473006 x473007 x473008 x473009))) else (some false)) else (if x473006.toList = ([] : List UInt8) then (spec_inXMLs.j3 k x473000 x473001 x473002 x473003 x473004 x473005 x473006 x473007 x473008 x473009) else ((spec_isWord.f k x473006).bind fun t476 => (if t476 = true then (spec_inXMLs.j3 k x473000 x473001 x473002 x473003 x473004 x473005 x473006 x473007 x473008 x473009) else (some false))))) else (if x12 = 9 then ((spec_isWord.f k x473007).bind fun t477 => (if t477 = true then ((spec_isWord.f k x473008).bind fun t478 => (spec_inXMLs.j1 k (!t478) x473000 x473001 x473002 x473003 x473004 x473005 x473006 x473007 x473008 x473009)) else (spec_inXMLs.j1 k true x473000 x473001 x473002 x473003 x473004 x473005 x473006 x473007 x473008 x473009))) else (spec_inXMLs.j3 k x473000 x473001 x473002 x473003 x473004 x473005 x473006 x473007 x473008 x473009)))))
def spec_inXMLs.j1 : Nat → Bool → Int → ByteArray → Int → List ByteArray → List (S28) → List Bool → ByteArray → ByteArray → ByteArray → List (S45) → Option (Bool)
 | 0, _, _, _, _, _, _, _, _, _, _, _ => none
 | k + 1, x65, x473000, x473001, x473002, x473003, x473004, x473005, x473006, x473007, x473008, x473009 => if x65 = true then (some false) else (spec_inXMLs.l0 k x473003 (x473003.length : Int) 0 x473000 x473001 x473002 x473003 x473004 x473005 x473006 x473007 x473008 x473009)
def spec_inXMLs.l0 : Nat → List ByteArray → Int → Int → Int → ByteArray → Int → List ByteArray → List (S28) → List Bool → ByteArray → ByteArray → ByteArray → List (S45) → Option (Bool)
 | 0, _, _, _, _, _, _, _, _, _, _, _, _, _ => none
 | k + 1, x67, x68, x69, x473000, x473001, x473002, x473003, x473004, x473005, x473006, x473007, x473008, x473009 => if x69 < x68 then (if 0 ≤ x69 then (if x69 < (x67.length : Int) then ((spec_areChars.f (rdOf ByteArray.empty x67 x69)).bind fun t480 => (if t480 = true then (spec_inXMLs.l0 k x67 x68 (wrap64 (x69 + 1)) x473000 x473001 x473002 x473003 x473004 x473005 x473006 x473007 x473008 x473009) else (some false))) else (none)) else (none)) else (spec_inXMLs.j3 k x473000 x473001 x473002 x473003 x473004 x473005 x473006 x473007 x473008 x473009)
end
def spec_inXMLs.f (k : Nat) (a0_0 : Int) (a0_1 : ByteArray) (a0_2 : Int) (l0_3 : List ByteArray) (l0_4 : List (S28)) (l0_5 : List Bool) (a0_6 : ByteArray) (a0_7 : ByteArray) (a0_8 : ByteArray) (l0_9 : List (S45)) (a1 : Bool) : Option (Bool) := if a0_0 = 10 then (spec_inXMLs.j0 k a1 a0_0 (a0_0 == 10) a0_0 a0_1 a0_2 l0_3 l0_4 l0_5 a0_6 a0_7 a0_8 l0_9) else (spec_inXMLs.j0 k a1 a0_0 (a0_0 == 11) a0_0 a0_1 a0_2 l0_3 l0_4 l0_5 a0_6 a0_7 a0_8 l0_9)
set_option maxHeartbeats 8000000 in
set_option maxRecDepth 100000 in
theorem spec_inXMLs.calls (k : Nat) (a0_0 : Int) (a0_1 : ByteArray) (a0_2 : Int) (A0_3 : Option Addr) (c0_3 : Nat) (l0_3 : List ByteArray) (A0_4 : Option Addr) (c0_4 : Nat) (l0_4 : List (S28)) (A0_5 : Option Addr) (c0_5 : Nat) (l0_5 : List Bool) (a0_6 : ByteArray) (a0_7 : ByteArray) (a0_8 : ByteArray) (A0_9 : Option Addr) (c0_9 : Nat) (l0_9 : List (S45)) (a1 : Bool) (r : Bool) (w : World) (hr0_3 : Kd.C Kd.string w A0_3 l0_3.length l0_3) (hc0_3 : l0_3.length ≤ c0_3) (hr0_4 : Kd.C k28 w A0_4 l0_4.length l0_4) (hc0_4 : l0_4.length ≤ c0_4) (hr0_5 : Kd.C Kd.bool w A0_5 l0_5.length l0_5) (hc0_5 : l0_5.length ≤ c0_5) (hr0_9 : Kd.C k45 w A0_9 l0_9.length l0_9) (hc0_9 : l0_9.length ≤ c0_9) (h : spec_inXMLs.f k a0_0 a0_1 a0_2 l0_3 l0_4 l0_5 a0_6 a0_7 a0_8 l0_9 a1 = some r) :
 Calls Tryz.prog 26 #[.agg #[.int .i64 a0_0, .string a0_1, .int .i64 a0_2, .slice A0_3 l0_3.length c0_3, .slice A0_4 l0_4.length c0_4, .slice A0_5 l0_5.length c0_5, .string a0_6, .string a0_7, .string a0_8, .slice A0_9 l0_9.length c0_9], .bool a1] w fun e w' => e = .returned (.bool r) ∧ Below w.heap.size w w' := by
 have hu28 := Tryz.underlying28
 have hu45 := Tryz.underlying45
 have HR0_3 := Aside0.mk hr0_3
 have HC0_3 := Aside0.mk hc0_3
 clear hr0_3 hc0_3
 have HR0_4 := Aside0.mk hr0_4
 have HC0_4 := Aside0.mk hc0_4
 clear hr0_4 hc0_4
 have HR0_5 := Aside0.mk hr0_5
 have HC0_5 := Aside0.mk hc0_5
 clear hr0_5 hc0_5
 have HR0_9 := Aside0.mk hr0_9
 have HC0_9 := Aside0.mk hc0_9
 clear hr0_9 hc0_9
 have HB := Aside0.mk (Below.refl w.heap.size w)
 have H : (if a0_0 = 10 then (spec_inXMLs.j0 k a1 a0_0 (a0_0 == 10) a0_0 a0_1 a0_2 l0_3 l0_4 l0_5 a0_6 a0_7 a0_8 l0_9) else (spec_inXMLs.j0 k a1 a0_0 (a0_0 == 11) a0_0 a0_1 a0_2 l0_3 l0_4 l0_5 a0_6 a0_7 a0_8 l0_9)) = some r := h
 clear h
 have HC3 := Aside0.mk H
 clear H
 go_enter Tryz.func26, Tryz.ntmps26
 go_upto_block 0 with (first | ((with_reducible refine gate_dst (N := 2) rfl ?_); refine box_event ?hg (N := 2) ?hd (cs := #[.int .i64 a0_0, .string a0_1, .int .i64 a0_2, .slice A0_3 l0_3.length c0_3, .slice A0_4 l0_4.length c0_4, .slice A0_5 l0_5.length c0_5, .string a0_6, .string a0_7, .string a0_8, .slice A0_9 l0_9.length c0_9]) (t := 28) ?hr ?_; (case hd => rfl); (case hg => rfl); (case hr => first | (go_simp; done) | (go_simp; rfl)); intro gb472 hg w4 hbox hb; have n0_ := Aside0.mk (below_step (by repeat ((with_reducible exact HB.out))) hb); have n1_ := Aside0.mk (hbox); have n2_ := Aside0.mk ((by rw [hg]; exact (below_size (by repeat ((with_reducible exact HB.out)))) : w.heap.size ≤ gb472)); have n3_ := Aside0.mk ((by rw [hg]; exact (below_size (by repeat ((with_reducible exact HB.out)))) : w.heap.size ≤ gb472)); clear HB; have HB := n0_; have BK472 := n1_; have GW472 := n2_; have GE472 := n3_; clear n0_ n1_ n2_ n3_; clear hb hbox hg; have hcz5_0 : w4.cell? ⟨gb472, 0, none⟩ = some (.int .i64 a0_0) := (blk_cell BK472.out 0).trans rfl; have hcz5_1 : w4.cell? ⟨gb472, 1, none⟩ = some (.string a0_1) := (blk_cell BK472.out 1).trans rfl; have hcz5_2 : w4.cell? ⟨gb472, 2, none⟩ = some (.int .i64 a0_2) := (blk_cell BK472.out 2).trans rfl; have hcz5_3 : w4.cell? ⟨gb472, 3, none⟩ = some (.slice A0_3 l0_3.length c0_3) := (blk_cell BK472.out 3).trans rfl; have hcz5_4 : w4.cell? ⟨gb472, 4, none⟩ = some (.slice A0_4 l0_4.length c0_4) := (blk_cell BK472.out 4).trans rfl; have hcz5_5 : w4.cell? ⟨gb472, 5, none⟩ = some (.slice A0_5 l0_5.length c0_5) := (blk_cell BK472.out 5).trans rfl; have hcz5_6 : w4.cell? ⟨gb472, 6, none⟩ = some (.string a0_6) := (blk_cell BK472.out 6).trans rfl; have hcz5_7 : w4.cell? ⟨gb472, 7, none⟩ = some (.string a0_7) := (blk_cell BK472.out 7).trans rfl; have hcz5_8 : w4.cell? ⟨gb472, 8, none⟩ = some (.string a0_8) := (blk_cell BK472.out 8).trans rfl; have hcz5_9 : w4.cell? ⟨gb472, 9, none⟩ = some (.slice A0_9 l0_9.length c0_9) := (blk_cell BK472.out 9).trans rfl; have hfz5_0 := blk_frozen BK472.out 0; have hfz5_1 := blk_frozen BK472.out 1; have hfz5_2 := blk_frozen BK472.out 2; have hfz5_3 := blk_frozen BK472.out 3; have hfz5_4 := blk_frozen BK472.out 4; have hfz5_5 := blk_frozen BK472.out 5; have hfz5_6 := blk_frozen BK472.out 6; have hfz5_7 := blk_frozen BK472.out 7; have hfz5_8 := blk_frozen BK472.out 8; have hfz5_9 := blk_frozen BK472.out 9))
 (skip)
 go_cut [] (fun wc => ∃ (kq : Nat), Aside0 (spec_inXMLs.j3 kq a0_0 a0_1 a0_2 l0_3 l0_4 l0_5 a0_6 a0_7 a0_8 l0_9 = some r) ∧ Aside0 (kq ≤ k) ∧ Aside0 (wc.heap[gb472]? = some (.cells #[.int .i64 a0_0, .string a0_1, .int .i64 a0_2, (.slice A0_3 l0_3.length c0_3), (.slice A0_4 l0_4.length c0_4), (.slice A0_5 l0_5.length c0_5), .string a0_6, .string a0_7, .string a0_8, (.slice A0_9 l0_9.length c0_9)] 28 (0, 0))) ∧ Aside0 (Below w.heap.size w wc))
 case first =>
  have H := HC3.out
  clear HC3
  have HC6 := Aside0.mk H
  clear H
  go_upto_if 13 with (fail)
  go_cut [13] (fun v13 wc => ∃ (kq : Nat) (x13_5 : Bool), v13 = .bool x13_5 ∧ Aside0 (spec_inXMLs.j0 kq a1 a0_0 x13_5 a0_0 a0_1 a0_2 l0_3 l0_4 l0_5 a0_6 a0_7 a0_8 l0_9 = some r) ∧ Aside0 (kq ≤ k) ∧ Aside0 (wc.heap[gb472]? = some (.cells #[.int .i64 a0_0, .string a0_1, .int .i64 a0_2, (.slice A0_3 l0_3.length c0_3), (.slice A0_4 l0_4.length c0_4), (.slice A0_5 l0_5.length c0_5), .string a0_6, .string a0_7, .string a0_8, (.slice A0_9 l0_9.length c0_9)] 28 (0, 0))) ∧ Aside0 (Below w.heap.size w wc))
  case first =>
   have H := HC6.out
   clear HC6
   by_cases c7 : a0_0 = 10
   ·rw [if_pos c7] at H
    have c7b0 : (a0_0 == 10) = true := beq_iff_eq.mpr c7
    have c7b1 : (a0_0 != 10) = false := bne_eq_false_iff_eq.mpr c7
    clear c7
    (first | rw [c7b0] | (simp only [i64_w, i32_w]; rw [c7b0]) | skip)
    have H' := Aside0.mk H
    clear H
    go_wp2
    go_meet
    case rel => exact ⟨_, ((a0_0 == 10)), (by first | rfl | (simp; done) | (simp [*]; done)), H', ⟨by first | omega | exact Nat.le_refl _⟩, ⟨by (with_reducible repeat (fail)); exact BK472.out⟩, ⟨by repeat ((with_reducible exact HB.out))⟩⟩
   ·rw [if_neg c7] at H
    have c7b0 : (a0_0 == 10) = false := beq_eq_false_iff_ne.mpr c7
    have c7b1 : (a0_0 != 10) = true := bne_iff_ne.mpr c7
    (first | rw [c7b0] | (simp only [i64_w, i32_w]; rw [c7b0]) | skip)
    have H' := Aside0.mk H
    clear H
    go_wp2
    go_meet
    case rel => exact ⟨_, ((a0_0 == 11)), (by first | rfl | (simp; done) | (simp [*]; done)), H', ⟨by first | omega | exact Nat.le_refl _⟩, ⟨by (with_reducible repeat (fail)); exact BK472.out⟩, ⟨by repeat ((with_reducible exact HB.out))⟩⟩
  case rest =>
   clear HC6
   try clear c2
   try clear p2
   try clear c7
   try clear c7b0
   try clear c7b1
   try clear hcz5_0
   try clear hcz5_1
   try clear hcz5_2
   try clear hcz5_3
   try clear hcz5_4
   try clear hcz5_5
   try clear hcz5_6
   try clear hcz5_7
   try clear hcz5_8
   try clear hcz5_9
   try clear hfz5_0
   try clear hfz5_1
   try clear hfz5_2
   try clear hfz5_3
   try clear hfz5_4
   try clear hfz5_5
   try clear hfz5_6
   try clear hfz5_7
   try clear hfz5_8
   try clear hfz5_9
   obtain ⟨kq, x13_5, rfl, HA, HJ5, BK472, HB⟩ := hcut
   cases kq with
   | zero => exact absurd HA.out (by simp [spec_inXMLs.j0])
   | succ kj5 =>
     have H := HA.out
     clear HA
     simp only [spec_inXMLs.j0] at H
     by_cases c8 : x13_5 = true
     ·subst c8
      have H1 : (some false) = some r := by rw [if_pos rfl] at H; exact H
      clear H
      have H := H1
      clear H1
      obtain rfl := Option.some.inj H
      go_wp2
      go_ret
      exact ⟨by rfl, by repeat ((with_reducible exact HB.out))⟩
     ·replace c8 := Bool.eq_false_iff.mpr c8
      subst c8
      have H1 : (if a0_0 = 0 then ((spec_areChars.f a0_1).bind fun t473 => (if t473 = true then (spec_inXMLs.j3 kj5 a0_0 a0_1 a0_2 l0_3 l0_4 l0_5 a0_6 a0_7 a0_8 l0_9) else (some false))) else (if a0_0 = 7 then ((spec_areWords.f kj5 l0_3).bind fun t474 => (if t474 = true then (spec_inXMLs.j3 kj5 a0_0 a0_1 a0_2 l0_3 l0_4 l0_5 a0_6 a0_7 a0_8 l0_9) else (some false))) else (if a0_0 = 8 then (if a1 = true then (if a0_6.toList = ([] : List UInt8) then ((spec_hasLists.f kj5 a0_0 a0_1 a0_2 l0_3 l0_4 l0_5 a0_6 a0_7 a0_8 l0_9).bind fun t475 => (if t475 = true then (some false) else (spec_inXMLs.j3 kj5 a0_0 a0_1 a0_2 l0_3 l0_4 l0_5 a0_6 a0_7 a0_8 l0_9))) else (some false)) else (if a0_6.toList = ([] : List UInt8) then (spec_inXMLs.j3 kj5 a0_0 a0_1 a0_2 l0_3 l0_4 l0_5 a0_6 a0_7 a0_8 l0_9) else ((spec_isWord.f kj5 a0_6).bind fun t476 => (if t476 = true then (spec_inXMLs.j3 kj5 a0_0 a0_1 a0_2 l0_3 l0_4 l0_5 a0_6 a0_7 a0_8 l0_9) else (some false))))) else (if a0_0 = 9 then ((spec_isWord.f kj5 a0_7).bind fun t477 => (if t477 = true then ((spec_isWord.f kj5 a0_8).bind fun t478 => (spec_inXMLs.j1 kj5 (!t478) a0_0 a0_1 a0_2 l0_3 l0_4 l0_5 a0_6 a0_7 a0_8 l0_9)) else (spec_inXMLs.j1 kj5 true a0_0 a0_1 a0_2 l0_3 l0_4 l0_5 a0_6 a0_7 a0_8 l0_9))) else (spec_inXMLs.j3 kj5 a0_0 a0_1 a0_2 l0_3 l0_4 l0_5 a0_6 a0_7 a0_8 l0_9))))) = some r := by rw [if_neg (show ¬ (false = true) by decide)] at H; exact H
      clear H
      have H := H1
      clear H1
      by_cases c9 : a0_0 = 0
      ·rw [if_pos c9] at H
       have c9b0 : (a0_0 == 0) = true := beq_iff_eq.mpr c9
       have c9b1 : (a0_0 != 0) = false := bne_eq_false_iff_eq.mpr c9
       clear c9
       replace H := Option.bind_eq_some_iff.mp H
       obtain ⟨t473, A100, H⟩ := H
       replace H : (if t473 = true then (spec_inXMLs.j3 kj5 a0_0 a0_1 a0_2 l0_3 l0_4 l0_5 a0_6 a0_7 a0_8 l0_9) else (some false)) = some r := H
       have A10 := Aside0.mk A100
       clear A100
       by_cases c11 : t473 = true
       ·subst c11
        have H1 : (spec_inXMLs.j3 kj5 a0_0 a0_1 a0_2 l0_3 l0_4 l0_5 a0_6 a0_7 a0_8 l0_9) = some r := by rw [if_pos rfl] at H; exact H
        clear H
        have H := H1
        clear H1
        have H' := Aside0.mk H
        clear H
        have hcz12_0 : wc.cell? ⟨gb472, 0, none⟩ = some (.int .i64 a0_0) := (blk_cell BK472.out 0).trans rfl
        have hcz12_1 : wc.cell? ⟨gb472, 1, none⟩ = some (.string a0_1) := (blk_cell BK472.out 1).trans rfl
        have hcz12_2 : wc.cell? ⟨gb472, 2, none⟩ = some (.int .i64 a0_2) := (blk_cell BK472.out 2).trans rfl
        have hcz12_3 : wc.cell? ⟨gb472, 3, none⟩ = some (.slice A0_3 l0_3.length c0_3) := (blk_cell BK472.out 3).trans rfl
        have hcz12_4 : wc.cell? ⟨gb472, 4, none⟩ = some (.slice A0_4 l0_4.length c0_4) := (blk_cell BK472.out 4).trans rfl
        have hcz12_5 : wc.cell? ⟨gb472, 5, none⟩ = some (.slice A0_5 l0_5.length c0_5) := (blk_cell BK472.out 5).trans rfl
        have hcz12_6 : wc.cell? ⟨gb472, 6, none⟩ = some (.string a0_6) := (blk_cell BK472.out 6).trans rfl
        have hcz12_7 : wc.cell? ⟨gb472, 7, none⟩ = some (.string a0_7) := (blk_cell BK472.out 7).trans rfl
        have hcz12_8 : wc.cell? ⟨gb472, 8, none⟩ = some (.string a0_8) := (blk_cell BK472.out 8).trans rfl
        have hcz12_9 : wc.cell? ⟨gb472, 9, none⟩ = some (.slice A0_9 l0_9.length c0_9) := (blk_cell BK472.out 9).trans rfl
        have hfz12_0 := blk_frozen BK472.out 0
        have hfz12_1 := blk_frozen BK472.out 1
        have hfz12_2 := blk_frozen BK472.out 2
        have hfz12_3 := blk_frozen BK472.out 3
        have hfz12_4 := blk_frozen BK472.out 4
        have hfz12_5 := blk_frozen BK472.out 5
        have hfz12_6 := blk_frozen BK472.out 6
        have hfz12_7 := blk_frozen BK472.out 7
        have hfz12_8 := blk_frozen BK472.out 8
        have hfz12_9 := blk_frozen BK472.out 9
        go_wp2_with (first | ((with_reducible refine gate_callee (f := 41) rfl ?_); refine goesL_ (some 20) rfl rfl Tryz.func41 (by kernel_rfl) rfl #[.string a0_1] rfl (by (try simp only [List.map_toArray, List.map_cons, List.map_nil]); rfl) ?_; (with_reducible refine (spec_areChars.calls a0_1 true _ A10.out).mono ?_); rintro e w13 ⟨rfl, hb⟩; refine ⟨_, rfl, ?_⟩; have n0_ := Aside0.mk (blk_below (g := gb472) (o := .cells #[.int .i64 a0_0, .string a0_1, .int .i64 a0_2, .slice A0_3 l0_3.length c0_3, .slice A0_4 l0_4.length c0_4, .slice A0_5 l0_5.length c0_5, .string a0_6, .string a0_7, .string a0_8, .slice A0_9 l0_9.length c0_9] 28 (0, 0)) (by (with_reducible repeat (fail)); exact BK472.out) hb); have n1_ := Aside0.mk (below_step (by repeat ((with_reducible exact HB.out))) hb); clear BK472; clear HB; have BK472 := n0_; have HB := n1_; clear n0_ n1_; (try clear hb); (try clear hb2); (try clear hk); (try clear hi)))
        go_meet
        case rel => exact ⟨_, H', ⟨by have := HJ5.out; first | omega | exact Nat.le_refl _⟩, ⟨by (with_reducible repeat (fail)); exact BK472.out⟩, ⟨by repeat ((with_reducible exact HB.out))⟩⟩
       ·replace c11 := Bool.eq_false_iff.mpr c11
        subst c11
        have H1 : (some false) = some r := by rw [if_neg (show ¬ (false = true) by decide)] at H; exact H
        clear H
        have H := H1
        clear H1
        obtain rfl := Option.some.inj H
        have hcz14_0 : wc.cell? ⟨gb472, 0, none⟩ = some (.int .i64 a0_0) := (blk_cell BK472.out 0).trans rfl
        have hcz14_1 : wc.cell? ⟨gb472, 1, none⟩ = some (.string a0_1) := (blk_cell BK472.out 1).trans rfl
        have hcz14_2 : wc.cell? ⟨gb472, 2, none⟩ = some (.int .i64 a0_2) := (blk_cell BK472.out 2).trans rfl
        have hcz14_3 : wc.cell? ⟨gb472, 3, none⟩ = some (.slice A0_3 l0_3.length c0_3) := (blk_cell BK472.out 3).trans rfl
        have hcz14_4 : wc.cell? ⟨gb472, 4, none⟩ = some (.slice A0_4 l0_4.length c0_4) := (blk_cell BK472.out 4).trans rfl
        have hcz14_5 : wc.cell? ⟨gb472, 5, none⟩ = some (.slice A0_5 l0_5.length c0_5) := (blk_cell BK472.out 5).trans rfl
        have hcz14_6 : wc.cell? ⟨gb472, 6, none⟩ = some (.string a0_6) := (blk_cell BK472.out 6).trans rfl
        have hcz14_7 : wc.cell? ⟨gb472, 7, none⟩ = some (.string a0_7) := (blk_cell BK472.out 7).trans rfl
        have hcz14_8 : wc.cell? ⟨gb472, 8, none⟩ = some (.string a0_8) := (blk_cell BK472.out 8).trans rfl
        have hcz14_9 : wc.cell? ⟨gb472, 9, none⟩ = some (.slice A0_9 l0_9.length c0_9) := (blk_cell BK472.out 9).trans rfl
        have hfz14_0 := blk_frozen BK472.out 0
        have hfz14_1 := blk_frozen BK472.out 1
        have hfz14_2 := blk_frozen BK472.out 2
        have hfz14_3 := blk_frozen BK472.out 3
        have hfz14_4 := blk_frozen BK472.out 4
        have hfz14_5 := blk_frozen BK472.out 5
        have hfz14_6 := blk_frozen BK472.out 6
        have hfz14_7 := blk_frozen BK472.out 7
        have hfz14_8 := blk_frozen BK472.out 8
        have hfz14_9 := blk_frozen BK472.out 9
        go_wp2_with (first | ((with_reducible refine gate_callee (f := 41) rfl ?_); refine goesL_ (some 20) rfl rfl Tryz.func41 (by kernel_rfl) rfl #[.string a0_1] rfl (by (try simp only [List.map_toArray, List.map_cons, List.map_nil]); rfl) ?_; (with_reducible refine (spec_areChars.calls a0_1 false _ A10.out).mono ?_); rintro e w15 ⟨rfl, hb⟩; refine ⟨_, rfl, ?_⟩; have n0_ := Aside0.mk (blk_below (g := gb472) (o := .cells #[.int .i64 a0_0, .string a0_1, .int .i64 a0_2, .slice A0_3 l0_3.length c0_3, .slice A0_4 l0_4.length c0_4, .slice A0_5 l0_5.length c0_5, .string a0_6, .string a0_7, .string a0_8, .slice A0_9 l0_9.length c0_9] 28 (0, 0)) (by (with_reducible repeat (fail)); exact BK472.out) hb); have n1_ := Aside0.mk (below_step (by repeat ((with_reducible exact HB.out))) hb); clear BK472; clear HB; have BK472 := n0_; have HB := n1_; clear n0_ n1_; (try clear hb); (try clear hb2); (try clear hk); (try clear hi)))
        go_ret
        exact ⟨by rfl, by repeat ((with_reducible exact HB.out))⟩
      ·rw [if_neg c9] at H
       have c9b0 : (a0_0 == 0) = false := beq_eq_false_iff_ne.mpr c9
       have c9b1 : (a0_0 != 0) = true := bne_iff_ne.mpr c9
       by_cases c16 : a0_0 = 7
       ·rw [if_pos c16] at H
        have c16b0 : (a0_0 == 7) = true := beq_iff_eq.mpr c16
        have c16b1 : (a0_0 != 7) = false := bne_eq_false_iff_eq.mpr c16
        clear c16
        replace H := Option.bind_eq_some_iff.mp H
        obtain ⟨t474, A170, H⟩ := H
        replace H : (if t474 = true then (spec_inXMLs.j3 kj5 a0_0 a0_1 a0_2 l0_3 l0_4 l0_5 a0_6 a0_7 a0_8 l0_9) else (some false)) = some r := H
        have A17 := Aside0.mk A170
        clear A170
        by_cases c18 : t474 = true
        ·subst c18
         have H1 : (spec_inXMLs.j3 kj5 a0_0 a0_1 a0_2 l0_3 l0_4 l0_5 a0_6 a0_7 a0_8 l0_9) = some r := by rw [if_pos rfl] at H; exact H
         clear H
         have H := H1
         clear H1
         have H' := Aside0.mk H
         clear H
         have hcz19_0 : wc.cell? ⟨gb472, 0, none⟩ = some (.int .i64 a0_0) := (blk_cell BK472.out 0).trans rfl
         have hcz19_1 : wc.cell? ⟨gb472, 1, none⟩ = some (.string a0_1) := (blk_cell BK472.out 1).trans rfl
         have hcz19_2 : wc.cell? ⟨gb472, 2, none⟩ = some (.int .i64 a0_2) := (blk_cell BK472.out 2).trans rfl
         have hcz19_3 : wc.cell? ⟨gb472, 3, none⟩ = some (.slice A0_3 l0_3.length c0_3) := (blk_cell BK472.out 3).trans rfl
         have hcz19_4 : wc.cell? ⟨gb472, 4, none⟩ = some (.slice A0_4 l0_4.length c0_4) := (blk_cell BK472.out 4).trans rfl
         have hcz19_5 : wc.cell? ⟨gb472, 5, none⟩ = some (.slice A0_5 l0_5.length c0_5) := (blk_cell BK472.out 5).trans rfl
         have hcz19_6 : wc.cell? ⟨gb472, 6, none⟩ = some (.string a0_6) := (blk_cell BK472.out 6).trans rfl
         have hcz19_7 : wc.cell? ⟨gb472, 7, none⟩ = some (.string a0_7) := (blk_cell BK472.out 7).trans rfl
         have hcz19_8 : wc.cell? ⟨gb472, 8, none⟩ = some (.string a0_8) := (blk_cell BK472.out 8).trans rfl
         have hcz19_9 : wc.cell? ⟨gb472, 9, none⟩ = some (.slice A0_9 l0_9.length c0_9) := (blk_cell BK472.out 9).trans rfl
         have hfz19_0 := blk_frozen BK472.out 0
         have hfz19_1 := blk_frozen BK472.out 1
         have hfz19_2 := blk_frozen BK472.out 2
         have hfz19_3 := blk_frozen BK472.out 3
         have hfz19_4 := blk_frozen BK472.out 4
         have hfz19_5 := blk_frozen BK472.out 5
         have hfz19_6 := blk_frozen BK472.out 6
         have hfz19_7 := blk_frozen BK472.out 7
         have hfz19_8 := blk_frozen BK472.out 8
         have hfz19_9 := blk_frozen BK472.out 9
         go_wp2_with (first | ((with_reducible refine gate_callee (f := 56) rfl ?_); refine goesL_ (some 26) rfl rfl Tryz.func56 (by kernel_rfl) rfl #[.slice A0_3 l0_3.length c0_3] rfl (by (try simp only [List.map_toArray, List.map_cons, List.map_nil]); rfl) ?_; (with_reducible refine (spec_areWords.calls kj5 _ _ l0_3 true _ ?side1 ?side2 A17.out).mono ?_); (case side1 => repeat (exact (Kd.C_below HR0_3.out HB.out))); (case side2 => exact HC0_3.out); rintro e w' ⟨rfl, ⟨nd, rfl⟩⟩; refine ⟨_, rfl, ?_⟩))
         go_meet
         case rel => exact ⟨_, H', ⟨by have := HJ5.out; first | omega | exact Nat.le_refl _⟩, ⟨by (with_reducible repeat (refine blk_drewN ?_ _)); exact BK472.out⟩, ⟨by repeat ((with_reducible first | exact HB.out | apply pw_below_drewN ))⟩⟩
        ·replace c18 := Bool.eq_false_iff.mpr c18
         subst c18
         have H1 : (some false) = some r := by rw [if_neg (show ¬ (false = true) by decide)] at H; exact H
         clear H
         have H := H1
         clear H1
         obtain rfl := Option.some.inj H
         have hcz20_0 : wc.cell? ⟨gb472, 0, none⟩ = some (.int .i64 a0_0) := (blk_cell BK472.out 0).trans rfl
         have hcz20_1 : wc.cell? ⟨gb472, 1, none⟩ = some (.string a0_1) := (blk_cell BK472.out 1).trans rfl
         have hcz20_2 : wc.cell? ⟨gb472, 2, none⟩ = some (.int .i64 a0_2) := (blk_cell BK472.out 2).trans rfl
         have hcz20_3 : wc.cell? ⟨gb472, 3, none⟩ = some (.slice A0_3 l0_3.length c0_3) := (blk_cell BK472.out 3).trans rfl
         have hcz20_4 : wc.cell? ⟨gb472, 4, none⟩ = some (.slice A0_4 l0_4.length c0_4) := (blk_cell BK472.out 4).trans rfl
         have hcz20_5 : wc.cell? ⟨gb472, 5, none⟩ = some (.slice A0_5 l0_5.length c0_5) := (blk_cell BK472.out 5).trans rfl
         have hcz20_6 : wc.cell? ⟨gb472, 6, none⟩ = some (.string a0_6) := (blk_cell BK472.out 6).trans rfl
         have hcz20_7 : wc.cell? ⟨gb472, 7, none⟩ = some (.string a0_7) := (blk_cell BK472.out 7).trans rfl
         have hcz20_8 : wc.cell? ⟨gb472, 8, none⟩ = some (.string a0_8) := (blk_cell BK472.out 8).trans rfl
         have hcz20_9 : wc.cell? ⟨gb472, 9, none⟩ = some (.slice A0_9 l0_9.length c0_9) := (blk_cell BK472.out 9).trans rfl
         have hfz20_0 := blk_frozen BK472.out 0
         have hfz20_1 := blk_frozen BK472.out 1
         have hfz20_2 := blk_frozen BK472.out 2
         have hfz20_3 := blk_frozen BK472.out 3
         have hfz20_4 := blk_frozen BK472.out 4
         have hfz20_5 := blk_frozen BK472.out 5
         have hfz20_6 := blk_frozen BK472.out 6
         have hfz20_7 := blk_frozen BK472.out 7
         have hfz20_8 := blk_frozen BK472.out 8
         have hfz20_9 := blk_frozen BK472.out 9
         go_wp2_with (first | ((with_reducible refine gate_callee (f := 56) rfl ?_); refine goesL_ (some 26) rfl rfl Tryz.func56 (by kernel_rfl) rfl #[.slice A0_3 l0_3.length c0_3] rfl (by (try simp only [List.map_toArray, List.map_cons, List.map_nil]); rfl) ?_; (with_reducible refine (spec_areWords.calls kj5 _ _ l0_3 false _ ?side1 ?side2 A17.out).mono ?_); (case side1 => repeat (exact (Kd.C_below HR0_3.out HB.out))); (case side2 => exact HC0_3.out); rintro e w' ⟨rfl, ⟨nd, rfl⟩⟩; refine ⟨_, rfl, ?_⟩))
         go_ret
         exact ⟨by rfl, by repeat ((with_reducible first | exact HB.out | apply pw_below_drewN ))⟩
       ·rw [if_neg c16] at H
        have c16b0 : (a0_0 == 7) = false := beq_eq_false_iff_ne.mpr c16
        have c16b1 : (a0_0 != 7) = true := bne_iff_ne.mpr c16
        by_cases c21 : a0_0 = 8
        ·rw [if_pos c21] at H
         have c21b0 : (a0_0 == 8) = true := beq_iff_eq.mpr c21
         have c21b1 : (a0_0 != 8) = false := bne_eq_false_iff_eq.mpr c21
         clear c21
         by_cases c22 : a1 = true
         ·subst c22
          have H1 : (if a0_6.toList = ([] : List UInt8) then ((spec_hasLists.f kj5 a0_0 a0_1 a0_2 l0_3 l0_4 l0_5 a0_6 a0_7 a0_8 l0_9).bind fun t475 => (if t475 = true then (some false) else (spec_inXMLs.j3 kj5 a0_0 a0_1 a0_2 l0_3 l0_4 l0_5 a0_6 a0_7 a0_8 l0_9))) else (some false)) = some r := by rw [if_pos rfl] at H; exact H
          clear H
          have H := H1
          clear H1
          by_cases c23 : a0_6.toList = ([] : List UInt8)
          ·rw [if_pos c23] at H
           have c23b0 : (a0_6.toList == ([] : List UInt8)) = true := beq_iff_eq.mpr c23
           have c23b1 : (a0_6.toList != ([] : List UInt8)) = false := bne_eq_false_iff_eq.mpr c23
           clear c23
           replace H := Option.bind_eq_some_iff.mp H
           obtain ⟨t475, A240, H⟩ := H
           replace H : (if t475 = true then (some false) else (spec_inXMLs.j3 kj5 a0_0 a0_1 a0_2 l0_3 l0_4 l0_5 a0_6 a0_7 a0_8 l0_9)) = some r := H
           have A24 := Aside0.mk A240
           clear A240
           by_cases c25 : t475 = true
           ·subst c25
            have H1 : (some false) = some r := by rw [if_pos rfl] at H; exact H
            clear H
            have H := H1
            clear H1
            obtain rfl := Option.some.inj H
            have hcz26_0 : wc.cell? ⟨gb472, 0, none⟩ = some (.int .i64 a0_0) := (blk_cell BK472.out 0).trans rfl
            have hcz26_1 : wc.cell? ⟨gb472, 1, none⟩ = some (.string a0_1) := (blk_cell BK472.out 1).trans rfl
            have hcz26_2 : wc.cell? ⟨gb472, 2, none⟩ = some (.int .i64 a0_2) := (blk_cell BK472.out 2).trans rfl
            have hcz26_3 : wc.cell? ⟨gb472, 3, none⟩ = some (.slice A0_3 l0_3.length c0_3) := (blk_cell BK472.out 3).trans rfl
            have hcz26_4 : wc.cell? ⟨gb472, 4, none⟩ = some (.slice A0_4 l0_4.length c0_4) := (blk_cell BK472.out 4).trans rfl
            have hcz26_5 : wc.cell? ⟨gb472, 5, none⟩ = some (.slice A0_5 l0_5.length c0_5) := (blk_cell BK472.out 5).trans rfl
            have hcz26_6 : wc.cell? ⟨gb472, 6, none⟩ = some (.string a0_6) := (blk_cell BK472.out 6).trans rfl
            have hcz26_7 : wc.cell? ⟨gb472, 7, none⟩ = some (.string a0_7) := (blk_cell BK472.out 7).trans rfl
            have hcz26_8 : wc.cell? ⟨gb472, 8, none⟩ = some (.string a0_8) := (blk_cell BK472.out 8).trans rfl
            have hcz26_9 : wc.cell? ⟨gb472, 9, none⟩ = some (.slice A0_9 l0_9.length c0_9) := (blk_cell BK472.out 9).trans rfl
            have hfz26_0 := blk_frozen BK472.out 0
            have hfz26_1 := blk_frozen BK472.out 1
            have hfz26_2 := blk_frozen BK472.out 2
            have hfz26_3 := blk_frozen BK472.out 3
            have hfz26_4 := blk_frozen BK472.out 4
            have hfz26_5 := blk_frozen BK472.out 5
            have hfz26_6 := blk_frozen BK472.out 6
            have hfz26_7 := blk_frozen BK472.out 7
            have hfz26_8 := blk_frozen BK472.out 8
            have hfz26_9 := blk_frozen BK472.out 9
            go_wp2_with (first | (go_at_call 57; (with_reducible refine (spec_hasLists.calls kj5 a0_0 a0_1 a0_2 _ _ l0_3 _ _ l0_4 _ _ l0_5 a0_6 a0_7 a0_8 _ _ l0_9 true _ ?side1 ?side2 ?side3 ?side4 ?side5 ?side6 ?side7 ?side8 A24.out).mono ?_); (case side1 => repeat (exact (Kd.C_below HR0_3.out HB.out))); (case side2 => exact HC0_3.out); (case side3 => repeat (exact (Kd.C_below HR0_4.out HB.out))); (case side4 => exact HC0_4.out); (case side5 => repeat (exact (Kd.C_below HR0_5.out HB.out))); (case side6 => exact HC0_5.out); (case side7 => repeat (exact (Kd.C_below HR0_9.out HB.out))); (case side8 => exact HC0_9.out); rintro e w27 ⟨rfl, hb⟩; have n0_ := Aside0.mk (blk_below (g := gb472) (o := .cells #[.int .i64 a0_0, .string a0_1, .int .i64 a0_2, .slice A0_3 l0_3.length c0_3, .slice A0_4 l0_4.length c0_4, .slice A0_5 l0_5.length c0_5, .string a0_6, .string a0_7, .string a0_8, .slice A0_9 l0_9.length c0_9] 28 (0, 0)) (by (with_reducible repeat (fail)); exact BK472.out) hb); have n1_ := Aside0.mk (below_step (by repeat ((with_reducible exact HB.out))) hb); clear BK472; clear HB; have BK472 := n0_; have HB := n1_; clear n0_ n1_; (try clear hb); (try clear hb2); (try clear hk); (try clear hi)))
            go_ret
            exact ⟨by rfl, by repeat ((with_reducible exact HB.out))⟩
           ·replace c25 := Bool.eq_false_iff.mpr c25
            subst c25
            have H1 : (spec_inXMLs.j3 kj5 a0_0 a0_1 a0_2 l0_3 l0_4 l0_5 a0_6 a0_7 a0_8 l0_9) = some r := by rw [if_neg (show ¬ (false = true) by decide)] at H; exact H
            clear H
            have H := H1
            clear H1
            have H' := Aside0.mk H
            clear H
            have hcz28_0 : wc.cell? ⟨gb472, 0, none⟩ = some (.int .i64 a0_0) := (blk_cell BK472.out 0).trans rfl
            have hcz28_1 : wc.cell? ⟨gb472, 1, none⟩ = some (.string a0_1) := (blk_cell BK472.out 1).trans rfl
            have hcz28_2 : wc.cell? ⟨gb472, 2, none⟩ = some (.int .i64 a0_2) := (blk_cell BK472.out 2).trans rfl
            have hcz28_3 : wc.cell? ⟨gb472, 3, none⟩ = some (.slice A0_3 l0_3.length c0_3) := (blk_cell BK472.out 3).trans rfl
            have hcz28_4 : wc.cell? ⟨gb472, 4, none⟩ = some (.slice A0_4 l0_4.length c0_4) := (blk_cell BK472.out 4).trans rfl
            have hcz28_5 : wc.cell? ⟨gb472, 5, none⟩ = some (.slice A0_5 l0_5.length c0_5) := (blk_cell BK472.out 5).trans rfl
            have hcz28_6 : wc.cell? ⟨gb472, 6, none⟩ = some (.string a0_6) := (blk_cell BK472.out 6).trans rfl
            have hcz28_7 : wc.cell? ⟨gb472, 7, none⟩ = some (.string a0_7) := (blk_cell BK472.out 7).trans rfl
            have hcz28_8 : wc.cell? ⟨gb472, 8, none⟩ = some (.string a0_8) := (blk_cell BK472.out 8).trans rfl
            have hcz28_9 : wc.cell? ⟨gb472, 9, none⟩ = some (.slice A0_9 l0_9.length c0_9) := (blk_cell BK472.out 9).trans rfl
            have hfz28_0 := blk_frozen BK472.out 0
            have hfz28_1 := blk_frozen BK472.out 1
            have hfz28_2 := blk_frozen BK472.out 2
            have hfz28_3 := blk_frozen BK472.out 3
            have hfz28_4 := blk_frozen BK472.out 4
            have hfz28_5 := blk_frozen BK472.out 5
            have hfz28_6 := blk_frozen BK472.out 6
            have hfz28_7 := blk_frozen BK472.out 7
            have hfz28_8 := blk_frozen BK472.out 8
            have hfz28_9 := blk_frozen BK472.out 9
            go_wp2_with (first | (go_at_call 57; (with_reducible refine (spec_hasLists.calls kj5 a0_0 a0_1 a0_2 _ _ l0_3 _ _ l0_4 _ _ l0_5 a0_6 a0_7 a0_8 _ _ l0_9 false _ ?side1 ?side2 ?side3 ?side4 ?side5 ?side6 ?side7 ?side8 A24.out).mono ?_); (case side1 => repeat (exact (Kd.C_below HR0_3.out HB.out))); (case side2 => exact HC0_3.out); (case side3 => repeat (exact (Kd.C_below HR0_4.out HB.out))); (case side4 => exact HC0_4.out); (case side5 => repeat (exact (Kd.C_below HR0_5.out HB.out))); (case side6 => exact HC0_5.out); (case side7 => repeat (exact (Kd.C_below HR0_9.out HB.out))); (case side8 => exact HC0_9.out); rintro e w29 ⟨rfl, hb⟩; have n0_ := Aside0.mk (blk_below (g := gb472) (o := .cells #[.int .i64 a0_0, .string a0_1, .int .i64 a0_2, .slice A0_3 l0_3.length c0_3, .slice A0_4 l0_4.length c0_4, .slice A0_5 l0_5.length c0_5, .string a0_6, .string a0_7, .string a0_8, .slice A0_9 l0_9.length c0_9] 28 (0, 0)) (by (with_reducible repeat (fail)); exact BK472.out) hb); have n1_ := Aside0.mk (below_step (by repeat ((with_reducible exact HB.out))) hb); clear BK472; clear HB; have BK472 := n0_; have HB := n1_; clear n0_ n1_; (try clear hb); (try clear hb2); (try clear hk); (try clear hi)))
            go_meet
            case rel => exact ⟨_, H', ⟨by have := HJ5.out; first | omega | exact Nat.le_refl _⟩, ⟨by (with_reducible repeat (fail)); exact BK472.out⟩, ⟨by repeat ((with_reducible exact HB.out))⟩⟩
          ·rw [if_neg c23] at H
           have c23b0 : (a0_6.toList == ([] : List UInt8)) = false := beq_eq_false_iff_ne.mpr c23
           have c23b1 : (a0_6.toList != ([] : List UInt8)) = true := bne_iff_ne.mpr c23
           obtain rfl := Option.some.inj H
           have hcz30_0 : wc.cell? ⟨gb472, 0, none⟩ = some (.int .i64 a0_0) := (blk_cell BK472.out 0).trans rfl
           have hcz30_1 : wc.cell? ⟨gb472, 1, none⟩ = some (.string a0_1) := (blk_cell BK472.out 1).trans rfl
           have hcz30_2 : wc.cell? ⟨gb472, 2, none⟩ = some (.int .i64 a0_2) := (blk_cell BK472.out 2).trans rfl
           have hcz30_3 : wc.cell? ⟨gb472, 3, none⟩ = some (.slice A0_3 l0_3.length c0_3) := (blk_cell BK472.out 3).trans rfl
           have hcz30_4 : wc.cell? ⟨gb472, 4, none⟩ = some (.slice A0_4 l0_4.length c0_4) := (blk_cell BK472.out 4).trans rfl
           have hcz30_5 : wc.cell? ⟨gb472, 5, none⟩ = some (.slice A0_5 l0_5.length c0_5) := (blk_cell BK472.out 5).trans rfl
           have hcz30_6 : wc.cell? ⟨gb472, 6, none⟩ = some (.string a0_6) := (blk_cell BK472.out 6).trans rfl
           have hcz30_7 : wc.cell? ⟨gb472, 7, none⟩ = some (.string a0_7) := (blk_cell BK472.out 7).trans rfl
           have hcz30_8 : wc.cell? ⟨gb472, 8, none⟩ = some (.string a0_8) := (blk_cell BK472.out 8).trans rfl
           have hcz30_9 : wc.cell? ⟨gb472, 9, none⟩ = some (.slice A0_9 l0_9.length c0_9) := (blk_cell BK472.out 9).trans rfl
           have hfz30_0 := blk_frozen BK472.out 0
           have hfz30_1 := blk_frozen BK472.out 1
           have hfz30_2 := blk_frozen BK472.out 2
           have hfz30_3 := blk_frozen BK472.out 3
           have hfz30_4 := blk_frozen BK472.out 4
           have hfz30_5 := blk_frozen BK472.out 5
           have hfz30_6 := blk_frozen BK472.out 6
           have hfz30_7 := blk_frozen BK472.out 7
           have hfz30_8 := blk_frozen BK472.out 8
           have hfz30_9 := blk_frozen BK472.out 9
           go_wp2
           go_ret
           exact ⟨by rfl, by repeat ((with_reducible exact HB.out))⟩
         ·replace c22 := Bool.eq_false_iff.mpr c22
          subst c22
          have H1 : (if a0_6.toList = ([] : List UInt8) then (spec_inXMLs.j3 kj5 a0_0 a0_1 a0_2 l0_3 l0_4 l0_5 a0_6 a0_7 a0_8 l0_9) else ((spec_isWord.f kj5 a0_6).bind fun t476 => (if t476 = true then (spec_inXMLs.j3 kj5 a0_0 a0_1 a0_2 l0_3 l0_4 l0_5 a0_6 a0_7 a0_8 l0_9) else (some false)))) = some r := by rw [if_neg (show ¬ (false = true) by decide)] at H; exact H
          clear H
          have H := H1
          clear H1
          by_cases c31 : a0_6.toList = ([] : List UInt8)
          ·rw [if_pos c31] at H
           have c31b0 : (a0_6.toList == ([] : List UInt8)) = true := beq_iff_eq.mpr c31
           have c31b1 : (a0_6.toList != ([] : List UInt8)) = false := bne_eq_false_iff_eq.mpr c31
           clear c31
           have H' := Aside0.mk H
           clear H
           have hcz32_0 : wc.cell? ⟨gb472, 0, none⟩ = some (.int .i64 a0_0) := (blk_cell BK472.out 0).trans rfl
           have hcz32_1 : wc.cell? ⟨gb472, 1, none⟩ = some (.string a0_1) := (blk_cell BK472.out 1).trans rfl
           have hcz32_2 : wc.cell? ⟨gb472, 2, none⟩ = some (.int .i64 a0_2) := (blk_cell BK472.out 2).trans rfl
           have hcz32_3 : wc.cell? ⟨gb472, 3, none⟩ = some (.slice A0_3 l0_3.length c0_3) := (blk_cell BK472.out 3).trans rfl
           have hcz32_4 : wc.cell? ⟨gb472, 4, none⟩ = some (.slice A0_4 l0_4.length c0_4) := (blk_cell BK472.out 4).trans rfl
           have hcz32_5 : wc.cell? ⟨gb472, 5, none⟩ = some (.slice A0_5 l0_5.length c0_5) := (blk_cell BK472.out 5).trans rfl
           have hcz32_6 : wc.cell? ⟨gb472, 6, none⟩ = some (.string a0_6) := (blk_cell BK472.out 6).trans rfl
           have hcz32_7 : wc.cell? ⟨gb472, 7, none⟩ = some (.string a0_7) := (blk_cell BK472.out 7).trans rfl
           have hcz32_8 : wc.cell? ⟨gb472, 8, none⟩ = some (.string a0_8) := (blk_cell BK472.out 8).trans rfl
           have hcz32_9 : wc.cell? ⟨gb472, 9, none⟩ = some (.slice A0_9 l0_9.length c0_9) := (blk_cell BK472.out 9).trans rfl
           have hfz32_0 := blk_frozen BK472.out 0
           have hfz32_1 := blk_frozen BK472.out 1
           have hfz32_2 := blk_frozen BK472.out 2
           have hfz32_3 := blk_frozen BK472.out 3
           have hfz32_4 := blk_frozen BK472.out 4
           have hfz32_5 := blk_frozen BK472.out 5
           have hfz32_6 := blk_frozen BK472.out 6
           have hfz32_7 := blk_frozen BK472.out 7
           have hfz32_8 := blk_frozen BK472.out 8
           have hfz32_9 := blk_frozen BK472.out 9
           go_wp2
           go_meet
           case rel => exact ⟨_, H', ⟨by have := HJ5.out; first | omega | exact Nat.le_refl _⟩, ⟨by (with_reducible repeat (fail)); exact BK472.out⟩, ⟨by repeat ((with_reducible exact HB.out))⟩⟩
          ·rw [if_neg c31] at H
           have c31b0 : (a0_6.toList == ([] : List UInt8)) = false := beq_eq_false_iff_ne.mpr c31
           have c31b1 : (a0_6.toList != ([] : List UInt8)) = true := bne_iff_ne.mpr c31
           replace H := Option.bind_eq_some_iff.mp H
           obtain ⟨t476, A330, H⟩ := H
           replace H : (if t476 = true then (spec_inXMLs.j3 kj5 a0_0 a0_1 a0_2 l0_3 l0_4 l0_5 a0_6 a0_7 a0_8 l0_9) else (some false)) = some r := H
           have A33 := Aside0.mk A330
           clear A330
           by_cases c34 : t476 = true
           ·subst c34
            have H1 : (spec_inXMLs.j3 kj5 a0_0 a0_1 a0_2 l0_3 l0_4 l0_5 a0_6 a0_7 a0_8 l0_9) = some r := by rw [if_pos rfl] at H; exact H
            clear H
            have H := H1
            clear H1
            have H' := Aside0.mk H
            clear H
            have hcz35_0 : wc.cell? ⟨gb472, 0, none⟩ = some (.int .i64 a0_0) := (blk_cell BK472.out 0).trans rfl
            have hcz35_1 : wc.cell? ⟨gb472, 1, none⟩ = some (.string a0_1) := (blk_cell BK472.out 1).trans rfl
            have hcz35_2 : wc.cell? ⟨gb472, 2, none⟩ = some (.int .i64 a0_2) := (blk_cell BK472.out 2).trans rfl
            have hcz35_3 : wc.cell? ⟨gb472, 3, none⟩ = some (.slice A0_3 l0_3.length c0_3) := (blk_cell BK472.out 3).trans rfl
            have hcz35_4 : wc.cell? ⟨gb472, 4, none⟩ = some (.slice A0_4 l0_4.length c0_4) := (blk_cell BK472.out 4).trans rfl
            have hcz35_5 : wc.cell? ⟨gb472, 5, none⟩ = some (.slice A0_5 l0_5.length c0_5) := (blk_cell BK472.out 5).trans rfl
            have hcz35_6 : wc.cell? ⟨gb472, 6, none⟩ = some (.string a0_6) := (blk_cell BK472.out 6).trans rfl
            have hcz35_7 : wc.cell? ⟨gb472, 7, none⟩ = some (.string a0_7) := (blk_cell BK472.out 7).trans rfl
            have hcz35_8 : wc.cell? ⟨gb472, 8, none⟩ = some (.string a0_8) := (blk_cell BK472.out 8).trans rfl
            have hcz35_9 : wc.cell? ⟨gb472, 9, none⟩ = some (.slice A0_9 l0_9.length c0_9) := (blk_cell BK472.out 9).trans rfl
            have hfz35_0 := blk_frozen BK472.out 0
            have hfz35_1 := blk_frozen BK472.out 1
            have hfz35_2 := blk_frozen BK472.out 2
            have hfz35_3 := blk_frozen BK472.out 3
            have hfz35_4 := blk_frozen BK472.out 4
            have hfz35_5 := blk_frozen BK472.out 5
            have hfz35_6 := blk_frozen BK472.out 6
            have hfz35_7 := blk_frozen BK472.out 7
            have hfz35_8 := blk_frozen BK472.out 8
            have hfz35_9 := blk_frozen BK472.out 9
            go_wp2_with (first | (go_at_call 24; (with_reducible refine (spec_isWord.calls kj5 a0_6 true _ A33.out).mono ?_); rintro e w' ⟨rfl, ⟨nd, rfl⟩⟩))
            go_meet
            case rel => exact ⟨_, H', ⟨by have := HJ5.out; first | omega | exact Nat.le_refl _⟩, ⟨by (with_reducible repeat (refine blk_drewN ?_ _)); exact BK472.out⟩, ⟨by repeat ((with_reducible first | exact HB.out | apply pw_below_drewN ))⟩⟩
           ·replace c34 := Bool.eq_false_iff.mpr c34
            subst c34
            have H1 : (some false) = some r := by rw [if_neg (show ¬ (false = true) by decide)] at H; exact H
            clear H
            have H := H1
            clear H1
            obtain rfl := Option.some.inj H
            have hcz36_0 : wc.cell? ⟨gb472, 0, none⟩ = some (.int .i64 a0_0) := (blk_cell BK472.out 0).trans rfl
            have hcz36_1 : wc.cell? ⟨gb472, 1, none⟩ = some (.string a0_1) := (blk_cell BK472.out 1).trans rfl
            have hcz36_2 : wc.cell? ⟨gb472, 2, none⟩ = some (.int .i64 a0_2) := (blk_cell BK472.out 2).trans rfl
            have hcz36_3 : wc.cell? ⟨gb472, 3, none⟩ = some (.slice A0_3 l0_3.length c0_3) := (blk_cell BK472.out 3).trans rfl
            have hcz36_4 : wc.cell? ⟨gb472, 4, none⟩ = some (.slice A0_4 l0_4.length c0_4) := (blk_cell BK472.out 4).trans rfl
            have hcz36_5 : wc.cell? ⟨gb472, 5, none⟩ = some (.slice A0_5 l0_5.length c0_5) := (blk_cell BK472.out 5).trans rfl
            have hcz36_6 : wc.cell? ⟨gb472, 6, none⟩ = some (.string a0_6) := (blk_cell BK472.out 6).trans rfl
            have hcz36_7 : wc.cell? ⟨gb472, 7, none⟩ = some (.string a0_7) := (blk_cell BK472.out 7).trans rfl
            have hcz36_8 : wc.cell? ⟨gb472, 8, none⟩ = some (.string a0_8) := (blk_cell BK472.out 8).trans rfl
            have hcz36_9 : wc.cell? ⟨gb472, 9, none⟩ = some (.slice A0_9 l0_9.length c0_9) := (blk_cell BK472.out 9).trans rfl
            have hfz36_0 := blk_frozen BK472.out 0
            have hfz36_1 := blk_frozen BK472.out 1
            have hfz36_2 := blk_frozen BK472.out 2
            have hfz36_3 := blk_frozen BK472.out 3
            have hfz36_4 := blk_frozen BK472.out 4
            have hfz36_5 := blk_frozen BK472.out 5
            have hfz36_6 := blk_frozen BK472.out 6
            have hfz36_7 := blk_frozen BK472.out 7
            have hfz36_8 := blk_frozen BK472.out 8
            have hfz36_9 := blk_frozen BK472.out 9
            go_wp2_with (first | (go_at_call 24; (with_reducible refine (spec_isWord.calls kj5 a0_6 false _ A33.out).mono ?_); rintro e w' ⟨rfl, ⟨nd, rfl⟩⟩))
            go_ret
            exact ⟨by rfl, by repeat ((with_reducible first | exact HB.out | apply pw_below_drewN ))⟩
        ·rw [if_neg c21] at H
         have c21b0 : (a0_0 == 8) = false := beq_eq_false_iff_ne.mpr c21
         have c21b1 : (a0_0 != 8) = true := bne_iff_ne.mpr c21
         by_cases c37 : a0_0 = 9
         ·rw [if_pos c37] at H
          have c37b0 : (a0_0 == 9) = true := beq_iff_eq.mpr c37
          have c37b1 : (a0_0 != 9) = false := bne_eq_false_iff_eq.mpr c37
          clear c37
          have HC38 := Aside0.mk H
          clear H
          go_upto_region 15 with (fail)
          go_cut [65] (fun v65 wc => ∃ (kq : Nat) (x65_37 : Bool), v65 = .bool x65_37 ∧ Aside0 (spec_inXMLs.j1 kq x65_37 a0_0 a0_1 a0_2 l0_3 l0_4 l0_5 a0_6 a0_7 a0_8 l0_9 = some r) ∧ Aside0 (kq ≤ kj5) ∧ Aside0 (wc.heap[gb472]? = some (.cells #[.int .i64 a0_0, .string a0_1, .int .i64 a0_2, (.slice A0_3 l0_3.length c0_3), (.slice A0_4 l0_4.length c0_4), (.slice A0_5 l0_5.length c0_5), .string a0_6, .string a0_7, .string a0_8, (.slice A0_9 l0_9.length c0_9)] 28 (0, 0))) ∧ Aside0 (Below w.heap.size w wc))
          case first =>
           have H := HC38.out
           clear HC38
           replace H := Option.bind_eq_some_iff.mp H
           obtain ⟨t477, A390, H⟩ := H
           replace H : (if t477 = true then ((spec_isWord.f kj5 a0_8).bind fun t478 => (spec_inXMLs.j1 kj5 (!t478) a0_0 a0_1 a0_2 l0_3 l0_4 l0_5 a0_6 a0_7 a0_8 l0_9)) else (spec_inXMLs.j1 kj5 true a0_0 a0_1 a0_2 l0_3 l0_4 l0_5 a0_6 a0_7 a0_8 l0_9)) = some r := H
           have A39 := Aside0.mk A390
           clear A390
           by_cases c40 : t477 = true
           ·subst c40
            have H1 : ((spec_isWord.f kj5 a0_8).bind fun t478 => (spec_inXMLs.j1 kj5 (!t478) a0_0 a0_1 a0_2 l0_3 l0_4 l0_5 a0_6 a0_7 a0_8 l0_9)) = some r := by rw [if_pos rfl] at H; exact H
            clear H
            have H := H1
            clear H1
            replace H := Option.bind_eq_some_iff.mp H
            obtain ⟨t478, A410, H⟩ := H
            replace H : (spec_inXMLs.j1 kj5 (!t478) a0_0 a0_1 a0_2 l0_3 l0_4 l0_5 a0_6 a0_7 a0_8 l0_9) = some r := H
            have A41 := Aside0.mk A410
            clear A410
            have H' := Aside0.mk H
            clear H
            have hcz42_0 : wc.cell? ⟨gb472, 0, none⟩ = some (.int .i64 a0_0) := (blk_cell BK472.out 0).trans rfl
            have hcz42_1 : wc.cell? ⟨gb472, 1, none⟩ = some (.string a0_1) := (blk_cell BK472.out 1).trans rfl
            have hcz42_2 : wc.cell? ⟨gb472, 2, none⟩ = some (.int .i64 a0_2) := (blk_cell BK472.out 2).trans rfl
            have hcz42_3 : wc.cell? ⟨gb472, 3, none⟩ = some (.slice A0_3 l0_3.length c0_3) := (blk_cell BK472.out 3).trans rfl
            have hcz42_4 : wc.cell? ⟨gb472, 4, none⟩ = some (.slice A0_4 l0_4.length c0_4) := (blk_cell BK472.out 4).trans rfl
            have hcz42_5 : wc.cell? ⟨gb472, 5, none⟩ = some (.slice A0_5 l0_5.length c0_5) := (blk_cell BK472.out 5).trans rfl
            have hcz42_6 : wc.cell? ⟨gb472, 6, none⟩ = some (.string a0_6) := (blk_cell BK472.out 6).trans rfl
            have hcz42_7 : wc.cell? ⟨gb472, 7, none⟩ = some (.string a0_7) := (blk_cell BK472.out 7).trans rfl
            have hcz42_8 : wc.cell? ⟨gb472, 8, none⟩ = some (.string a0_8) := (blk_cell BK472.out 8).trans rfl
            have hcz42_9 : wc.cell? ⟨gb472, 9, none⟩ = some (.slice A0_9 l0_9.length c0_9) := (blk_cell BK472.out 9).trans rfl
            have hfz42_0 := blk_frozen BK472.out 0
            have hfz42_1 := blk_frozen BK472.out 1
            have hfz42_2 := blk_frozen BK472.out 2
            have hfz42_3 := blk_frozen BK472.out 3
            have hfz42_4 := blk_frozen BK472.out 4
            have hfz42_5 := blk_frozen BK472.out 5
            have hfz42_6 := blk_frozen BK472.out 6
            have hfz42_7 := blk_frozen BK472.out 7
            have hfz42_8 := blk_frozen BK472.out 8
            have hfz42_9 := blk_frozen BK472.out 9
            go_wp2_with (first | ((with_reducible refine gate_callee (f := 24) rfl ?_); refine goesL_ (some 58) rfl rfl Tryz.func24 (by kernel_rfl) rfl #[.string a0_7] rfl (by (try simp only [List.map_toArray, List.map_cons, List.map_nil]); rfl) ?_; (with_reducible refine (spec_isWord.calls kj5 a0_7 true _ A39.out).mono ?_); rintro e w' ⟨rfl, ⟨nd, rfl⟩⟩; refine ⟨_, rfl, ?_⟩) | (go_at_call 24; (with_reducible refine (spec_isWord.calls kj5 a0_8 t478 _ A41.out).mono ?_); rintro e w' ⟨rfl, ⟨nd, rfl⟩⟩))
            go_meet
            case rel => exact ⟨_, (!t478), (by first | rfl | (simp; done) | (simp [*]; done)), H', ⟨by have := HJ5.out; first | omega | exact Nat.le_refl _⟩, ⟨by (with_reducible repeat (refine blk_drewN ?_ _)); exact BK472.out⟩, ⟨by repeat ((with_reducible first | exact HB.out | apply pw_below_drewN ))⟩⟩
           ·replace c40 := Bool.eq_false_iff.mpr c40
            subst c40
            have H1 : (spec_inXMLs.j1 kj5 true a0_0 a0_1 a0_2 l0_3 l0_4 l0_5 a0_6 a0_7 a0_8 l0_9) = some r := by rw [if_neg (show ¬ (false = true) by decide)] at H; exact H
            clear H
            have H := H1
            clear H1
            have H' := Aside0.mk H
            clear H
            have hcz43_0 : wc.cell? ⟨gb472, 0, none⟩ = some (.int .i64 a0_0) := (blk_cell BK472.out 0).trans rfl
            have hcz43_1 : wc.cell? ⟨gb472, 1, none⟩ = some (.string a0_1) := (blk_cell BK472.out 1).trans rfl
            have hcz43_2 : wc.cell? ⟨gb472, 2, none⟩ = some (.int .i64 a0_2) := (blk_cell BK472.out 2).trans rfl
            have hcz43_3 : wc.cell? ⟨gb472, 3, none⟩ = some (.slice A0_3 l0_3.length c0_3) := (blk_cell BK472.out 3).trans rfl
            have hcz43_4 : wc.cell? ⟨gb472, 4, none⟩ = some (.slice A0_4 l0_4.length c0_4) := (blk_cell BK472.out 4).trans rfl
            have hcz43_5 : wc.cell? ⟨gb472, 5, none⟩ = some (.slice A0_5 l0_5.length c0_5) := (blk_cell BK472.out 5).trans rfl
            have hcz43_6 : wc.cell? ⟨gb472, 6, none⟩ = some (.string a0_6) := (blk_cell BK472.out 6).trans rfl
            have hcz43_7 : wc.cell? ⟨gb472, 7, none⟩ = some (.string a0_7) := (blk_cell BK472.out 7).trans rfl
            have hcz43_8 : wc.cell? ⟨gb472, 8, none⟩ = some (.string a0_8) := (blk_cell BK472.out 8).trans rfl
            have hcz43_9 : wc.cell? ⟨gb472, 9, none⟩ = some (.slice A0_9 l0_9.length c0_9) := (blk_cell BK472.out 9).trans rfl
            have hfz43_0 := blk_frozen BK472.out 0
            have hfz43_1 := blk_frozen BK472.out 1
            have hfz43_2 := blk_frozen BK472.out 2
            have hfz43_3 := blk_frozen BK472.out 3
            have hfz43_4 := blk_frozen BK472.out 4
            have hfz43_5 := blk_frozen BK472.out 5
            have hfz43_6 := blk_frozen BK472.out 6
            have hfz43_7 := blk_frozen BK472.out 7
            have hfz43_8 := blk_frozen BK472.out 8
            have hfz43_9 := blk_frozen BK472.out 9
            go_wp2_with (first | ((with_reducible refine gate_callee (f := 24) rfl ?_); refine goesL_ (some 58) rfl rfl Tryz.func24 (by kernel_rfl) rfl #[.string a0_7] rfl (by (try simp only [List.map_toArray, List.map_cons, List.map_nil]); rfl) ?_; (with_reducible refine (spec_isWord.calls kj5 a0_7 false _ A39.out).mono ?_); rintro e w' ⟨rfl, ⟨nd, rfl⟩⟩; refine ⟨_, rfl, ?_⟩))
            go_meet
            case rel => exact ⟨_, (true), (by first | rfl | (simp; done) | (simp [*]; done)), H', ⟨by have := HJ5.out; first | omega | exact Nat.le_refl _⟩, ⟨by (with_reducible repeat (refine blk_drewN ?_ _)); exact BK472.out⟩, ⟨by repeat ((with_reducible first | exact HB.out | apply pw_below_drewN ))⟩⟩
          case rest =>
           clear HC38
           try clear c1
           try clear c2
           try clear p2
           try clear c3
           try clear c4
           try clear c5
           try clear c7
           try clear c7b0
           try clear c7b1
           try clear c8
           try clear c9
           try clear c9b0
           try clear c9b1
           try clear c11
           try clear c16
           try clear c16b0
           try clear c16b1
           try clear c18
           try clear c21
           try clear c21b0
           try clear c21b1
           try clear c22
           try clear c23
           try clear c23b0
           try clear c23b1
           try clear c24
           try clear c25
           try clear c26
           try clear c31
           try clear c31b0
           try clear c31b1
           try clear c34
           try clear c37
           try clear c37b0
           try clear c37b1
           try clear c40
           try clear c41
           try clear hcz12_0
           try clear hcz12_1
           try clear hcz12_2
           try clear hcz12_3
           try clear hcz12_4
           try clear hcz12_5
           try clear hcz12_6
           try clear hcz12_7
           try clear hcz12_8
           try clear hcz12_9
           try clear hcz14_0
           try clear hcz14_1
           try clear hcz14_2
           try clear hcz14_3
           try clear hcz14_4
           try clear hcz14_5
           try clear hcz14_6
           try clear hcz14_7
           try clear hcz14_8
           try clear hcz14_9
           try clear hcz19_0
           try clear hcz19_1
           try clear hcz19_2
           try clear hcz19_3
           try clear hcz19_4
           try clear hcz19_5
           try clear hcz19_6
           try clear hcz19_7
           try clear hcz19_8
           try clear hcz19_9
           try clear hcz20_0
           try clear hcz20_1
           try clear hcz20_2
           try clear hcz20_3
           try clear hcz20_4
           try clear hcz20_5
           try clear hcz20_6
           try clear hcz20_7
           try clear hcz20_8
           try clear hcz20_9
           try clear hcz26_0
           try clear hcz26_1
           try clear hcz26_2
           try clear hcz26_3
           try clear hcz26_4
           try clear hcz26_5
           try clear hcz26_6
           try clear hcz26_7
           try clear hcz26_8
           try clear hcz26_9
           try clear hcz28_0
           try clear hcz28_1
           try clear hcz28_2
           try clear hcz28_3
           try clear hcz28_4
           try clear hcz28_5
           try clear hcz28_6
           try clear hcz28_7
           try clear hcz28_8
           try clear hcz28_9
           try clear hcz30_0
           try clear hcz30_1
           try clear hcz30_2
           try clear hcz30_3
           try clear hcz30_4
           try clear hcz30_5
           try clear hcz30_6
           try clear hcz30_7
           try clear hcz30_8
           try clear hcz30_9
           try clear hcz32_0
           try clear hcz32_1
           try clear hcz32_2
           try clear hcz32_3
           try clear hcz32_4
           try clear hcz32_5
           try clear hcz32_6
           try clear hcz32_7
           try clear hcz32_8
           try clear hcz32_9
           try clear hcz35_0
           try clear hcz35_1
           try clear hcz35_2
           try clear hcz35_3
           try clear hcz35_4
           try clear hcz35_5
           try clear hcz35_6
           try clear hcz35_7
           try clear hcz35_8
           try clear hcz35_9
           try clear hcz36_0
           try clear hcz36_1
           try clear hcz36_2
           try clear hcz36_3
           try clear hcz36_4
           try clear hcz36_5
           try clear hcz36_6
           try clear hcz36_7
           try clear hcz36_8
           try clear hcz36_9
           try clear hcz42_0
           try clear hcz42_1
           try clear hcz42_2
           try clear hcz42_3
           try clear hcz42_4
           try clear hcz42_5
           try clear hcz42_6
           try clear hcz42_7
           try clear hcz42_8
           try clear hcz42_9
           try clear hcz43_0
           try clear hcz43_1
           try clear hcz43_2
           try clear hcz43_3
           try clear hcz43_4
           try clear hcz43_5
           try clear hcz43_6
           try clear hcz43_7
           try clear hcz43_8
           try clear hcz43_9
           try clear hcz5_0
           try clear hcz5_1
           try clear hcz5_2
           try clear hcz5_3
           try clear hcz5_4
           try clear hcz5_5
           try clear hcz5_6
           try clear hcz5_7
           try clear hcz5_8
           try clear hcz5_9
           try clear hfz12_0
           try clear hfz12_1
           try clear hfz12_2
           try clear hfz12_3
           try clear hfz12_4
           try clear hfz12_5
           try clear hfz12_6
           try clear hfz12_7
           try clear hfz12_8
           try clear hfz12_9
           try clear hfz14_0
           try clear hfz14_1
           try clear hfz14_2
           try clear hfz14_3
           try clear hfz14_4
           try clear hfz14_5
           try clear hfz14_6
           try clear hfz14_7
           try clear hfz14_8
           try clear hfz14_9
           try clear hfz19_0
           try clear hfz19_1
           try clear hfz19_2
           try clear hfz19_3
           try clear hfz19_4
           try clear hfz19_5
           try clear hfz19_6
           try clear hfz19_7
           try clear hfz19_8
           try clear hfz19_9
           try clear hfz20_0
           try clear hfz20_1
           try clear hfz20_2
           try clear hfz20_3
           try clear hfz20_4
           try clear hfz20_5
           try clear hfz20_6
           try clear hfz20_7
           try clear hfz20_8
           try clear hfz20_9
           try clear hfz26_0
           try clear hfz26_1
           try clear hfz26_2
           try clear hfz26_3
           try clear hfz26_4
           try clear hfz26_5
           try clear hfz26_6
           try clear hfz26_7
           try clear hfz26_8
           try clear hfz26_9
           try clear hfz28_0
           try clear hfz28_1
           try clear hfz28_2
           try clear hfz28_3
           try clear hfz28_4
           try clear hfz28_5
           try clear hfz28_6
           try clear hfz28_7
           try clear hfz28_8
           try clear hfz28_9
           try clear hfz30_0
           try clear hfz30_1
           try clear hfz30_2
           try clear hfz30_3
           try clear hfz30_4
           try clear hfz30_5
           try clear hfz30_6
           try clear hfz30_7
           try clear hfz30_8
           try clear hfz30_9
           try clear hfz32_0
           try clear hfz32_1
           try clear hfz32_2
           try clear hfz32_3
           try clear hfz32_4
           try clear hfz32_5
           try clear hfz32_6
           try clear hfz32_7
           try clear hfz32_8
           try clear hfz32_9
           try clear hfz35_0
           try clear hfz35_1
           try clear hfz35_2
           try clear hfz35_3
           try clear hfz35_4
           try clear hfz35_5
           try clear hfz35_6
           try clear hfz35_7
           try clear hfz35_8
           try clear hfz35_9
           try clear hfz36_0
           try clear hfz36_1
           try clear hfz36_2
           try clear hfz36_3
           try clear hfz36_4
           try clear hfz36_5
           try clear hfz36_6
           try clear hfz36_7
           try clear hfz36_8
           try clear hfz36_9
           try clear hfz42_0
           try clear hfz42_1
           try clear hfz42_2
           try clear hfz42_3
           try clear hfz42_4
           try clear hfz42_5
           try clear hfz42_6
           try clear hfz42_7
           try clear hfz42_8
           try clear hfz42_9
           try clear hfz43_0
           try clear hfz43_1
           try clear hfz43_2
           try clear hfz43_3
           try clear hfz43_4
           try clear hfz43_5
           try clear hfz43_6
           try clear hfz43_7
           try clear hfz43_8
           try clear hfz43_9
           try clear hfz5_0
           try clear hfz5_1
           try clear hfz5_2
           try clear hfz5_3
           try clear hfz5_4
           try clear hfz5_5
           try clear hfz5_6
           try clear hfz5_7
           try clear hfz5_8
           try clear hfz5_9
           try clear p2
           obtain ⟨kq, x65_37, rfl, HA, HJ37, BK472, HB⟩ := hcut
           cases kq with
           | zero => exact absurd HA.out (by simp [spec_inXMLs.j1])
           | succ kj37 =>
             have H := HA.out
             clear HA
             simp only [spec_inXMLs.j1] at H
             by_cases c44 : x65_37 = true
             ·subst c44
              have H1 : (some false) = some r := by rw [if_pos rfl] at H; exact H
              clear H
              have H := H1
              clear H1
              obtain rfl := Option.some.inj H
              go_wp2
              go_ret
              exact ⟨by rfl, by repeat ((with_reducible exact HB.out))⟩
             ·replace c44 := Bool.eq_false_iff.mpr c44
              subst c44
              have H1 : (spec_inXMLs.l0 kj37 l0_3 (l0_3.length : Int) 0 a0_0 a0_1 a0_2 l0_3 l0_4 l0_5 a0_6 a0_7 a0_8 l0_9) = some r := by rw [if_neg (show ¬ (false = true) by decide)] at H; exact H
              clear H
              have H := H1
              clear H1
              have H' := Aside0.mk H
              clear H
              have hcz45_0 : wc.cell? ⟨gb472, 0, none⟩ = some (.int .i64 a0_0) := (blk_cell BK472.out 0).trans rfl
              have hcz45_1 : wc.cell? ⟨gb472, 1, none⟩ = some (.string a0_1) := (blk_cell BK472.out 1).trans rfl
              have hcz45_2 : wc.cell? ⟨gb472, 2, none⟩ = some (.int .i64 a0_2) := (blk_cell BK472.out 2).trans rfl
              have hcz45_3 : wc.cell? ⟨gb472, 3, none⟩ = some (.slice A0_3 l0_3.length c0_3) := (blk_cell BK472.out 3).trans rfl
              have hcz45_4 : wc.cell? ⟨gb472, 4, none⟩ = some (.slice A0_4 l0_4.length c0_4) := (blk_cell BK472.out 4).trans rfl
              have hcz45_5 : wc.cell? ⟨gb472, 5, none⟩ = some (.slice A0_5 l0_5.length c0_5) := (blk_cell BK472.out 5).trans rfl
              have hcz45_6 : wc.cell? ⟨gb472, 6, none⟩ = some (.string a0_6) := (blk_cell BK472.out 6).trans rfl
              have hcz45_7 : wc.cell? ⟨gb472, 7, none⟩ = some (.string a0_7) := (blk_cell BK472.out 7).trans rfl
              have hcz45_8 : wc.cell? ⟨gb472, 8, none⟩ = some (.string a0_8) := (blk_cell BK472.out 8).trans rfl
              have hcz45_9 : wc.cell? ⟨gb472, 9, none⟩ = some (.slice A0_9 l0_9.length c0_9) := (blk_cell BK472.out 9).trans rfl
              have hfz45_0 := blk_frozen BK472.out 0
              have hfz45_1 := blk_frozen BK472.out 1
              have hfz45_2 := blk_frozen BK472.out 2
              have hfz45_3 := blk_frozen BK472.out 3
              have hfz45_4 := blk_frozen BK472.out 4
              have hfz45_5 := blk_frozen BK472.out 5
              have hfz45_6 := blk_frozen BK472.out 6
              have hfz45_7 := blk_frozen BK472.out 7
              have hfz45_8 := blk_frozen BK472.out 8
              have hfz45_9 := blk_frozen BK472.out 9
              go_wp2
              go_loopg [69] kj37 (fun kq v69 w' => ∃ (x69_3 : Int), v69 = .int .i64 x69_3 ∧ Aside0 (spec_inXMLs.l0 kq l0_3 (l0_3.length : Int) x69_3 a0_0 a0_1 a0_2 l0_3 l0_4 l0_5 a0_6 a0_7 a0_8 l0_9 = some r) ∧ Aside0 (kq ≤ kj37) ∧ Aside0 (w'.heap[gb472]? = some (.cells #[.int .i64 a0_0, .string a0_1, .int .i64 a0_2, (.slice A0_3 l0_3.length c0_3), (.slice A0_4 l0_4.length c0_4), (.slice A0_5 l0_5.length c0_5), .string a0_6, .string a0_7, .string a0_8, (.slice A0_9 l0_9.length c0_9)] 28 (0, 0))) ∧ Aside0 (Below w.heap.size w w'))
              case atStart => exact ⟨(0), (by first | rfl | (simp; done) | (simp [*]; done)), H', ⟨Nat.le_refl _⟩, ⟨by (with_reducible repeat (fail)); exact BK472.out⟩, ⟨by repeat ((with_reducible exact HB.out))⟩⟩
              case round =>
               clear H'
               try clear c1
               try clear c2
               try clear p2
               try clear c3
               try clear c4
               try clear c5
               try clear c7
               try clear c7b0
               try clear c7b1
               try clear c8
               try clear c9
               try clear c9b0
               try clear c9b1
               try clear c11
               try clear c16
               try clear c16b0
               try clear c16b1
               try clear c18
               try clear c21
               try clear c21b0
               try clear c21b1
               try clear c22
               try clear c23
               try clear c23b0
               try clear c23b1
               try clear c24
               try clear c25
               try clear c26
               try clear c31
               try clear c31b0
               try clear c31b1
               try clear c34
               try clear c37
               try clear c37b0
               try clear c37b1
               try clear c40
               try clear c41
               try clear c44
               try clear hcz12_0
               try clear hcz12_1
               try clear hcz12_2
               try clear hcz12_3
               try clear hcz12_4
               try clear hcz12_5
               try clear hcz12_6
               try clear hcz12_7
               try clear hcz12_8
               try clear hcz12_9
               try clear hcz14_0
               try clear hcz14_1
               try clear hcz14_2
               try clear hcz14_3
               try clear hcz14_4
               try clear hcz14_5
               try clear hcz14_6
               try clear hcz14_7
               try clear hcz14_8
               try clear hcz14_9
               try clear hcz19_0
               try clear hcz19_1
               try clear hcz19_2
               try clear hcz19_3
               try clear hcz19_4
               try clear hcz19_5
               try clear hcz19_6
               try clear hcz19_7
               try clear hcz19_8
               try clear hcz19_9
               try clear hcz20_0
               try clear hcz20_1
               try clear hcz20_2
               try clear hcz20_3
               try clear hcz20_4
               try clear hcz20_5
               try clear hcz20_6
               try clear hcz20_7
               try clear hcz20_8
               try clear hcz20_9
               try clear hcz26_0
               try clear hcz26_1
               try clear hcz26_2
               try clear hcz26_3
               try clear hcz26_4
               try clear hcz26_5
               try clear hcz26_6
               try clear hcz26_7
               try clear hcz26_8
               try clear hcz26_9
               try clear hcz28_0
               try clear hcz28_1
               try clear hcz28_2
               try clear hcz28_3
               try clear hcz28_4
               try clear hcz28_5
               try clear hcz28_6
               try clear hcz28_7
               try clear hcz28_8
               try clear hcz28_9
               try clear hcz30_0
               try clear hcz30_1
               try clear hcz30_2
               try clear hcz30_3
               try clear hcz30_4
               try clear hcz30_5
               try clear hcz30_6
               try clear hcz30_7
               try clear hcz30_8
               try clear hcz30_9
               try clear hcz32_0
               try clear hcz32_1
               try clear hcz32_2
               try clear hcz32_3
               try clear hcz32_4
               try clear hcz32_5
               try clear hcz32_6
               try clear hcz32_7
               try clear hcz32_8
               try clear hcz32_9
               try clear hcz35_0
               try clear hcz35_1
               try clear hcz35_2
               try clear hcz35_3
               try clear hcz35_4
               try clear hcz35_5
               try clear hcz35_6
               try clear hcz35_7
               try clear hcz35_8
               try clear hcz35_9
               try clear hcz36_0
               try clear hcz36_1
               try clear hcz36_2
               try clear hcz36_3
               try clear hcz36_4
               try clear hcz36_5
               try clear hcz36_6
               try clear hcz36_7
               try clear hcz36_8
               try clear hcz36_9
               try clear hcz42_0
               try clear hcz42_1
               try clear hcz42_2
               try clear hcz42_3
               try clear hcz42_4
               try clear hcz42_5
               try clear hcz42_6
               try clear hcz42_7
               try clear hcz42_8
               try clear hcz42_9
               try clear hcz43_0
               try clear hcz43_1
               try clear hcz43_2
               try clear hcz43_3
               try clear hcz43_4
               try clear hcz43_5
               try clear hcz43_6
               try clear hcz43_7
               try clear hcz43_8
               try clear hcz43_9
               try clear hcz45_0
               try clear hcz45_1
               try clear hcz45_2
               try clear hcz45_3
               try clear hcz45_4
               try clear hcz45_5
               try clear hcz45_6
               try clear hcz45_7
               try clear hcz45_8
               try clear hcz45_9
               try clear hcz5_0
               try clear hcz5_1
               try clear hcz5_2
               try clear hcz5_3
               try clear hcz5_4
               try clear hcz5_5
               try clear hcz5_6
               try clear hcz5_7
               try clear hcz5_8
               try clear hcz5_9
               try clear hfz12_0
               try clear hfz12_1
               try clear hfz12_2
               try clear hfz12_3
               try clear hfz12_4
               try clear hfz12_5
               try clear hfz12_6
               try clear hfz12_7
               try clear hfz12_8
               try clear hfz12_9
               try clear hfz14_0
               try clear hfz14_1
               try clear hfz14_2
               try clear hfz14_3
               try clear hfz14_4
               try clear hfz14_5
               try clear hfz14_6
               try clear hfz14_7
               try clear hfz14_8
               try clear hfz14_9
               try clear hfz19_0
               try clear hfz19_1
               try clear hfz19_2
               try clear hfz19_3
               try clear hfz19_4
               try clear hfz19_5
               try clear hfz19_6
               try clear hfz19_7
               try clear hfz19_8
               try clear hfz19_9
               try clear hfz20_0
               try clear hfz20_1
               try clear hfz20_2
               try clear hfz20_3
               try clear hfz20_4
               try clear hfz20_5
               try clear hfz20_6
               try clear hfz20_7
               try clear hfz20_8
               try clear hfz20_9
               try clear hfz26_0
               try clear hfz26_1
               try clear hfz26_2
               try clear hfz26_3
               try clear hfz26_4
               try clear hfz26_5
               try clear hfz26_6
               try clear hfz26_7
               try clear hfz26_8
               try clear hfz26_9
               try clear hfz28_0
               try clear hfz28_1
               try clear hfz28_2
               try clear hfz28_3
               try clear hfz28_4
               try clear hfz28_5
               try clear hfz28_6
               try clear hfz28_7
               try clear hfz28_8
               try clear hfz28_9
               try clear hfz30_0
               try clear hfz30_1
               try clear hfz30_2
               try clear hfz30_3
               try clear hfz30_4
               try clear hfz30_5
               try clear hfz30_6
               try clear hfz30_7
               try clear hfz30_8
               try clear hfz30_9
               try clear hfz32_0
               try clear hfz32_1
               try clear hfz32_2
               try clear hfz32_3
               try clear hfz32_4
               try clear hfz32_5
               try clear hfz32_6
               try clear hfz32_7
               try clear hfz32_8
               try clear hfz32_9
               try clear hfz35_0
               try clear hfz35_1
               try clear hfz35_2
               try clear hfz35_3
               try clear hfz35_4
               try clear hfz35_5
               try clear hfz35_6
               try clear hfz35_7
               try clear hfz35_8
               try clear hfz35_9
               try clear hfz36_0
               try clear hfz36_1
               try clear hfz36_2
               try clear hfz36_3
               try clear hfz36_4
               try clear hfz36_5
               try clear hfz36_6
               try clear hfz36_7
               try clear hfz36_8
               try clear hfz36_9
               try clear hfz42_0
               try clear hfz42_1
               try clear hfz42_2
               try clear hfz42_3
               try clear hfz42_4
               try clear hfz42_5
               try clear hfz42_6
               try clear hfz42_7
               try clear hfz42_8
               try clear hfz42_9
               try clear hfz43_0
               try clear hfz43_1
               try clear hfz43_2
               try clear hfz43_3
               try clear hfz43_4
               try clear hfz43_5
               try clear hfz43_6
               try clear hfz43_7
               try clear hfz43_8
               try clear hfz43_9
               try clear hfz45_0
               try clear hfz45_1
               try clear hfz45_2
               try clear hfz45_3
               try clear hfz45_4
               try clear hfz45_5
               try clear hfz45_6
               try clear hfz45_7
               try clear hfz45_8
               try clear hfz45_9
               try clear hfz5_0
               try clear hfz5_1
               try clear hfz5_2
               try clear hfz5_3
               try clear hfz5_4
               try clear hfz5_5
               try clear hfz5_6
               try clear hfz5_7
               try clear hfz5_8
               try clear hfz5_9
               try clear p2
               obtain ⟨x69_3, rfl, HA, HK3, BK472, HB⟩ := hrel
               cases gk with
               | zero => exact absurd HA.out (by simp [spec_inXMLs.l0])
               | succ k3 =>
                 have H := HA.out
                 clear HA
                 simp only [spec_inXMLs.l0] at H
                 by_cases c46 : x69_3 < (l0_3.length : Int)
                 ·rw [if_pos c46] at H
                  have c46b0 : decide (x69_3 < (l0_3.length : Int)) = true := decide_eq_true c46
                  clear c46
                  by_cases c47 : 0 ≤ x69_3
                  ·rw [if_pos c47] at H
                   have c47b0 : decide (0 ≤ x69_3) = true := decide_eq_true c47
                   clear c47
                   by_cases c48 : x69_3 < (l0_3.length : Int)
                   ·rw [if_pos c48] at H
                    have c48b0 : decide (x69_3 < (l0_3.length : Int)) = true := decide_eq_true c48
                    clear c48
                    replace H := Option.bind_eq_some_iff.mp H
                    obtain ⟨t480, A490, H⟩ := H
                    replace H : (if t480 = true then (spec_inXMLs.l0 k3 l0_3 (l0_3.length : Int) (wrap64 (x69_3 + 1)) a0_0 a0_1 a0_2 l0_3 l0_4 l0_5 a0_6 a0_7 a0_8 l0_9) else (some false)) = some r := H
                    have A49 := Aside0.mk A490
                    clear A490
                    by_cases c50 : t480 = true
                    ·subst c50
                     have H1 : (spec_inXMLs.l0 k3 l0_3 (l0_3.length : Int) (wrap64 (x69_3 + 1)) a0_0 a0_1 a0_2 l0_3 l0_4 l0_5 a0_6 a0_7 a0_8 l0_9) = some r := by rw [if_pos rfl] at H; exact H
                     clear H
                     have H := H1
                     clear H1
                     have H' := Aside0.mk H
                     clear H
                     have p479 : 0 ≤ (x69_3 : Int) := of_decide_eq_true (by first | (with_reducible assumption) | assumption)
                     have q479 : x69_3 < (l0_3.length : Int) := of_decide_eq_true (by first | (with_reducible assumption) | assumption)
                     obtain ⟨ad479, e479, hx479_0⟩ := Kd.at_string HR0_3.out x69_3 p479 q479
                     cases e479
                     replace hx479_0 := (HB.out.cell (World.block_lt_of_cell? w _ hx479_0)).trans hx479_0
                     replace p479 := eq_true p479
                     replace q479 := eq_true q479
                     go_wp2_with (first | ((with_reducible refine gate_callee (f := 41) rfl ?_); refine goesL_ (some 74) rfl rfl Tryz.func41 (by kernel_rfl) rfl #[.string (rdOf ByteArray.empty l0_3 x69_3)] rfl (by (try simp only [List.map_toArray, List.map_cons, List.map_nil]); rfl) ?_; (with_reducible refine (spec_areChars.calls (rdOf ByteArray.empty l0_3 x69_3) true _ A49.out).mono ?_); rintro e w51 ⟨rfl, hb⟩; refine ⟨_, rfl, ?_⟩; have n0_ := Aside0.mk (blk_below (g := gb472) (o := .cells #[.int .i64 a0_0, .string a0_1, .int .i64 a0_2, .slice (some ad479) l0_3.length c0_3, .slice A0_4 l0_4.length c0_4, .slice A0_5 l0_5.length c0_5, .string a0_6, .string a0_7, .string a0_8, .slice A0_9 l0_9.length c0_9] 28 (0, 0)) (by (with_reducible repeat (fail)); exact BK472.out) hb); have n1_ := Aside0.mk (below_step (by repeat ((with_reducible exact HB.out))) hb); clear BK472; clear HB; have BK472 := n0_; have HB := n1_; clear n0_ n1_; (try clear hb); (try clear hb2); (try clear hk); (try clear hi)))
                     go_roundg k3
                     case measure => have := HJ5.out; have := HJ37.out; have := HK3.out; omega
                     case rel => exact ⟨(wrap64 (x69_3 + 1)), (by first | rfl | (simp; done) | (simp [*]; done)), H', ⟨by have := HJ5.out; have := HJ37.out; have := HK3.out; omega⟩, ⟨by (with_reducible repeat (fail)); exact BK472.out⟩, ⟨by repeat ((with_reducible exact HB.out))⟩⟩
                    ·replace c50 := Bool.eq_false_iff.mpr c50
                     subst c50
                     have H1 : (some false) = some r := by rw [if_neg (show ¬ (false = true) by decide)] at H; exact H
                     clear H
                     have H := H1
                     clear H1
                     obtain rfl := Option.some.inj H
                     have p479 : 0 ≤ (x69_3 : Int) := of_decide_eq_true (by first | (with_reducible assumption) | assumption)
                     have q479 : x69_3 < (l0_3.length : Int) := of_decide_eq_true (by first | (with_reducible assumption) | assumption)
                     obtain ⟨ad479, e479, hx479_0⟩ := Kd.at_string HR0_3.out x69_3 p479 q479
                     cases e479
                     replace hx479_0 := (HB.out.cell (World.block_lt_of_cell? w _ hx479_0)).trans hx479_0
                     replace p479 := eq_true p479
                     replace q479 := eq_true q479
                     go_wp2_with (first | ((with_reducible refine gate_callee (f := 41) rfl ?_); refine goesL_ (some 74) rfl rfl Tryz.func41 (by kernel_rfl) rfl #[.string (rdOf ByteArray.empty l0_3 x69_3)] rfl (by (try simp only [List.map_toArray, List.map_cons, List.map_nil]); rfl) ?_; (with_reducible refine (spec_areChars.calls (rdOf ByteArray.empty l0_3 x69_3) false _ A49.out).mono ?_); rintro e w52 ⟨rfl, hb⟩; refine ⟨_, rfl, ?_⟩; have n0_ := Aside0.mk (blk_below (g := gb472) (o := .cells #[.int .i64 a0_0, .string a0_1, .int .i64 a0_2, .slice (some ad479) l0_3.length c0_3, .slice A0_4 l0_4.length c0_4, .slice A0_5 l0_5.length c0_5, .string a0_6, .string a0_7, .string a0_8, .slice A0_9 l0_9.length c0_9] 28 (0, 0)) (by (with_reducible repeat (fail)); exact BK472.out) hb); have n1_ := Aside0.mk (below_step (by repeat ((with_reducible exact HB.out))) hb); clear BK472; clear HB; have BK472 := n0_; have HB := n1_; clear n0_ n1_; (try clear hb); (try clear hb2); (try clear hk); (try clear hi)))
                     go_ret
                     exact ⟨by rfl, by repeat ((with_reducible exact HB.out))⟩
                   ·rw [if_neg c48] at H
                    exact absurd H (by simp)
                  ·rw [if_neg c47] at H
                   exact absurd H (by simp)
                 ·rw [if_neg c46] at H
                  have c46b0 : decide (x69_3 < (l0_3.length : Int)) = false := decide_eq_false c46
                  clear c46
                  have H' := Aside0.mk H
                  clear H
                  go_wp2
                  go_meet
                  case rel => exact ⟨_, H', ⟨by have := HJ5.out; have := HJ37.out; have := HK3.out; first | omega | exact Nat.le_refl _⟩, ⟨by (with_reducible repeat (fail)); exact BK472.out⟩, ⟨by repeat ((with_reducible exact HB.out))⟩⟩
         ·rw [if_neg c37] at H
          have c37b0 : (a0_0 == 9) = false := beq_eq_false_iff_ne.mpr c37
          have c37b1 : (a0_0 != 9) = true := bne_iff_ne.mpr c37
          have H' := Aside0.mk H
          clear H
          go_wp2
          go_meet
          case rel => exact ⟨_, H', ⟨by have := HJ5.out; first | omega | exact Nat.le_refl _⟩, ⟨by (with_reducible repeat (fail)); exact BK472.out⟩, ⟨by repeat ((with_reducible exact HB.out))⟩⟩
 case rest =>
  clear HC3
  try clear c1
  try clear c2
  try clear p2
  try clear c3
  try clear c4
  try clear p4
  try clear q4
  try clear hx4
  try clear c5
  try clear p6
  try clear c7
  try clear c7b0
  try clear c7b1
  try clear c8
  try clear c9
  try clear c9b0
  try clear c9b1
  try clear c11
  try clear c16
  try clear c16b0
  try clear c16b1
  try clear c18
  try clear c21
  try clear c21b0
  try clear c21b1
  try clear c22
  try clear c23
  try clear c23b0
  try clear c23b1
  try clear c24
  try clear c25
  try clear c26
  try clear c31
  try clear c31b0
  try clear c31b1
  try clear c34
  try clear c37
  try clear c37b0
  try clear c37b1
  try clear c40
  try clear c41
  try clear c44
  try clear c46
  try clear c46b0
  try clear c47
  try clear c47b0
  try clear p47
  try clear q47
  try clear hx47
  try clear c48
  try clear c48b0
  try clear c50
  try clear hcz12_0
  try clear hcz12_1
  try clear hcz12_2
  try clear hcz12_3
  try clear hcz12_4
  try clear hcz12_5
  try clear hcz12_6
  try clear hcz12_7
  try clear hcz12_8
  try clear hcz12_9
  try clear hcz14_0
  try clear hcz14_1
  try clear hcz14_2
  try clear hcz14_3
  try clear hcz14_4
  try clear hcz14_5
  try clear hcz14_6
  try clear hcz14_7
  try clear hcz14_8
  try clear hcz14_9
  try clear hcz19_0
  try clear hcz19_1
  try clear hcz19_2
  try clear hcz19_3
  try clear hcz19_4
  try clear hcz19_5
  try clear hcz19_6
  try clear hcz19_7
  try clear hcz19_8
  try clear hcz19_9
  try clear hcz20_0
  try clear hcz20_1
  try clear hcz20_2
  try clear hcz20_3
  try clear hcz20_4
  try clear hcz20_5
  try clear hcz20_6
  try clear hcz20_7
  try clear hcz20_8
  try clear hcz20_9
  try clear hcz26_0
  try clear hcz26_1
  try clear hcz26_2
  try clear hcz26_3
  try clear hcz26_4
  try clear hcz26_5
  try clear hcz26_6
  try clear hcz26_7
  try clear hcz26_8
  try clear hcz26_9
  try clear hcz28_0
  try clear hcz28_1
  try clear hcz28_2
  try clear hcz28_3
  try clear hcz28_4
  try clear hcz28_5
  try clear hcz28_6
  try clear hcz28_7
  try clear hcz28_8
  try clear hcz28_9
  try clear hcz30_0
  try clear hcz30_1
  try clear hcz30_2
  try clear hcz30_3
  try clear hcz30_4
  try clear hcz30_5
  try clear hcz30_6
  try clear hcz30_7
  try clear hcz30_8
  try clear hcz30_9
  try clear hcz32_0
  try clear hcz32_1
  try clear hcz32_2
  try clear hcz32_3
  try clear hcz32_4
  try clear hcz32_5
  try clear hcz32_6
  try clear hcz32_7
  try clear hcz32_8
  try clear hcz32_9
  try clear hcz35_0
  try clear hcz35_1
  try clear hcz35_2
  try clear hcz35_3
  try clear hcz35_4
  try clear hcz35_5
  try clear hcz35_6
  try clear hcz35_7
  try clear hcz35_8
  try clear hcz35_9
  try clear hcz36_0
  try clear hcz36_1
  try clear hcz36_2
  try clear hcz36_3
  try clear hcz36_4
  try clear hcz36_5
  try clear hcz36_6
  try clear hcz36_7
  try clear hcz36_8
  try clear hcz36_9
  try clear hcz42_0
  try clear hcz42_1
  try clear hcz42_2
  try clear hcz42_3
  try clear hcz42_4
  try clear hcz42_5
  try clear hcz42_6
  try clear hcz42_7
  try clear hcz42_8
  try clear hcz42_9
  try clear hcz43_0
  try clear hcz43_1
  try clear hcz43_2
  try clear hcz43_3
  try clear hcz43_4
  try clear hcz43_5
  try clear hcz43_6
  try clear hcz43_7
  try clear hcz43_8
  try clear hcz43_9
  try clear hcz45_0
  try clear hcz45_1
  try clear hcz45_2
  try clear hcz45_3
  try clear hcz45_4
  try clear hcz45_5
  try clear hcz45_6
  try clear hcz45_7
  try clear hcz45_8
  try clear hcz45_9
  try clear hcz5_0
  try clear hcz5_1
  try clear hcz5_2
  try clear hcz5_3
  try clear hcz5_4
  try clear hcz5_5
  try clear hcz5_6
  try clear hcz5_7
  try clear hcz5_8
  try clear hcz5_9
  try clear hfz12_0
  try clear hfz12_1
  try clear hfz12_2
  try clear hfz12_3
  try clear hfz12_4
  try clear hfz12_5
  try clear hfz12_6
  try clear hfz12_7
  try clear hfz12_8
  try clear hfz12_9
  try clear hfz14_0
  try clear hfz14_1
  try clear hfz14_2
  try clear hfz14_3
  try clear hfz14_4
  try clear hfz14_5
  try clear hfz14_6
  try clear hfz14_7
  try clear hfz14_8
  try clear hfz14_9
  try clear hfz19_0
  try clear hfz19_1
  try clear hfz19_2
  try clear hfz19_3
  try clear hfz19_4
  try clear hfz19_5
  try clear hfz19_6
  try clear hfz19_7
  try clear hfz19_8
  try clear hfz19_9
  try clear hfz20_0
  try clear hfz20_1
  try clear hfz20_2
  try clear hfz20_3
  try clear hfz20_4
  try clear hfz20_5
  try clear hfz20_6
  try clear hfz20_7
  try clear hfz20_8
  try clear hfz20_9
  try clear hfz26_0
  try clear hfz26_1
  try clear hfz26_2
  try clear hfz26_3
  try clear hfz26_4
  try clear hfz26_5
  try clear hfz26_6
  try clear hfz26_7
  try clear hfz26_8
  try clear hfz26_9
  try clear hfz28_0
  try clear hfz28_1
  try clear hfz28_2
  try clear hfz28_3
  try clear hfz28_4
  try clear hfz28_5
  try clear hfz28_6
  try clear hfz28_7
  try clear hfz28_8
  try clear hfz28_9
  try clear hfz30_0
  try clear hfz30_1
  try clear hfz30_2
  try clear hfz30_3
  try clear hfz30_4
  try clear hfz30_5
  try clear hfz30_6
  try clear hfz30_7
  try clear hfz30_8
  try clear hfz30_9
  try clear hfz32_0
  try clear hfz32_1
  try clear hfz32_2
  try clear hfz32_3
  try clear hfz32_4
  try clear hfz32_5
  try clear hfz32_6
  try clear hfz32_7
  try clear hfz32_8
  try clear hfz32_9
  try clear hfz35_0
  try clear hfz35_1
  try clear hfz35_2
  try clear hfz35_3
  try clear hfz35_4
  try clear hfz35_5
  try clear hfz35_6
  try clear hfz35_7
  try clear hfz35_8
  try clear hfz35_9
  try clear hfz36_0
  try clear hfz36_1
  try clear hfz36_2
  try clear hfz36_3
  try clear hfz36_4
  try clear hfz36_5
  try clear hfz36_6
  try clear hfz36_7
  try clear hfz36_8
  try clear hfz36_9
  try clear hfz42_0
  try clear hfz42_1
  try clear hfz42_2
  try clear hfz42_3
  try clear hfz42_4
  try clear hfz42_5
  try clear hfz42_6
  try clear hfz42_7
  try clear hfz42_8
  try clear hfz42_9
  try clear hfz43_0
  try clear hfz43_1
  try clear hfz43_2
  try clear hfz43_3
  try clear hfz43_4
  try clear hfz43_5
  try clear hfz43_6
  try clear hfz43_7
  try clear hfz43_8
  try clear hfz43_9
  try clear hfz45_0
  try clear hfz45_1
  try clear hfz45_2
  try clear hfz45_3
  try clear hfz45_4
  try clear hfz45_5
  try clear hfz45_6
  try clear hfz45_7
  try clear hfz45_8
  try clear hfz45_9
  try clear hfz5_0
  try clear hfz5_1
  try clear hfz5_2
  try clear hfz5_3
  try clear hfz5_4
  try clear hfz5_5
  try clear hfz5_6
  try clear hfz5_7
  try clear hfz5_8
  try clear hfz5_9
  try clear hx479_0
  try clear p2
  try clear p479
  try clear q479
  obtain ⟨kq, HA, HJ2, BK472, HB⟩ := hcut
  cases kq with
  | zero => exact absurd HA.out (by simp [spec_inXMLs.j3])
  | succ kj2 =>
    have H := HA.out
    clear HA
    simp only [spec_inXMLs.j3] at H
    obtain ⟨y481, hy481⟩ : ∃ y_ : List ByteArray, y_ = (([] : List ByteArray)) := ⟨_, rfl⟩
    replace H : (spec_inXMLs.l1 kj2 y481 l0_9 (l0_9.length : Int) 0) = some r := by (rw [hy481]; with_reducible exact H)
    have Ny481 := Aside0.mk hy481
    clear hy481
    have H' := Aside0.mk H
    clear H
    go_wp2_with (first | ((with_reducible refine gate_dst (N := 77) rfl ?_); refine Kd.R_lit Kd.string _ 9 ?hg (N := 77) ?hd (xs := ([] : List ByteArray)) (inner := []) (ok := fun _ => True) (okp := fun _ => True) ?hr ?hp (fun _ hk => hk) trivial (Below.refl _ _) (Nat.le_refl _) (by simp) ?_; (case hd => rfl); (case hg => rfl); (case hr => first | (go_simp; done) | (go_simp; rfl)); (case hp => exact (Reps.none _ _)); intro v482 w53 ho54 hb hg_ hnew_; clear hg_ hnew_; (rw [← Ny481.out] at ho54); have n0_ := Aside0.mk (Kd.R_lower ho54 (below_size (by repeat ((with_reducible exact HB.out))))); have n1_ := Aside0.mk (blk_below (g := gb472) (o := .cells #[.int .i64 a0_0, .string a0_1, .int .i64 a0_2, .slice A0_3 l0_3.length c0_3, .slice A0_4 l0_4.length c0_4, .slice A0_5 l0_5.length c0_5, .string a0_6, .string a0_7, .string a0_8, .slice A0_9 l0_9.length c0_9] 28 (0, 0)) (by (with_reducible repeat (fail)); exact BK472.out) hb); have n2_ := Aside0.mk (below_step (by repeat ((with_reducible exact HB.out))) hb); clear BK472; clear HB; have HO483 := n0_; have BK472 := n1_; have HB := n2_; clear n0_ n1_ n2_; clear hb ho54; have hcz55_0 : w53.cell? ⟨gb472, 0, none⟩ = some (.int .i64 a0_0) := (blk_cell BK472.out 0).trans rfl; have hcz55_1 : w53.cell? ⟨gb472, 1, none⟩ = some (.string a0_1) := (blk_cell BK472.out 1).trans rfl; have hcz55_2 : w53.cell? ⟨gb472, 2, none⟩ = some (.int .i64 a0_2) := (blk_cell BK472.out 2).trans rfl; have hcz55_3 : w53.cell? ⟨gb472, 3, none⟩ = some (.slice A0_3 l0_3.length c0_3) := (blk_cell BK472.out 3).trans rfl; have hcz55_4 : w53.cell? ⟨gb472, 4, none⟩ = some (.slice A0_4 l0_4.length c0_4) := (blk_cell BK472.out 4).trans rfl; have hcz55_5 : w53.cell? ⟨gb472, 5, none⟩ = some (.slice A0_5 l0_5.length c0_5) := (blk_cell BK472.out 5).trans rfl; have hcz55_6 : w53.cell? ⟨gb472, 6, none⟩ = some (.string a0_6) := (blk_cell BK472.out 6).trans rfl; have hcz55_7 : w53.cell? ⟨gb472, 7, none⟩ = some (.string a0_7) := (blk_cell BK472.out 7).trans rfl; have hcz55_8 : w53.cell? ⟨gb472, 8, none⟩ = some (.string a0_8) := (blk_cell BK472.out 8).trans rfl; have hcz55_9 : w53.cell? ⟨gb472, 9, none⟩ = some (.slice A0_9 l0_9.length c0_9) := (blk_cell BK472.out 9).trans rfl; have hfz55_0 := blk_frozen BK472.out 0; have hfz55_1 := blk_frozen BK472.out 1; have hfz55_2 := blk_frozen BK472.out 2; have hfz55_3 := blk_frozen BK472.out 3; have hfz55_4 := blk_frozen BK472.out 4; have hfz55_5 := blk_frozen BK472.out 5; have hfz55_6 := blk_frozen BK472.out 6; have hfz55_7 := blk_frozen BK472.out 7; have hfz55_8 := blk_frozen BK472.out 8; have hfz55_9 := blk_frozen BK472.out 9))
    go_loopg [7, 81] kj2 (fun kq v7 v81 w' => ∃ (x7_2 : List ByteArray) (x81_2 : Int), v81 = .int .i64 x81_2 ∧ Aside0 (spec_inXMLs.l1 kq x7_2 l0_9 (l0_9.length : Int) x81_2 = some r) ∧ Aside0 (kq ≤ kj2) ∧ Aside0 (Kd.R Kd.string 9 w' w.heap.size (fun _ => True) v7 x7_2) ∧ Aside0 (w'.heap[gb472]? = some (.cells #[.int .i64 a0_0, .string a0_1, .int .i64 a0_2, (.slice A0_3 l0_3.length c0_3), (.slice A0_4 l0_4.length c0_4), (.slice A0_5 l0_5.length c0_5), .string a0_6, .string a0_7, .string a0_8, (.slice A0_9 l0_9.length c0_9)] 28 (0, 0))) ∧ Aside0 (Below w.heap.size w w'))
    case atStart => exact ⟨(y481), (0), (by first | rfl | (simp; done) | (simp [*]; done)), H', ⟨Nat.le_refl _⟩, ⟨by (with_reducible repeat (first | apply Kd.R_alloc | apply Kd.R_drewN | apply Kd.R_drew)); exact HO483.out⟩, ⟨by (with_reducible repeat (fail)); exact BK472.out⟩, ⟨by repeat ((with_reducible exact HB.out))⟩⟩
    case round =>
     clear H'
     try clear c1
     try clear c2
     try clear p2
     try clear c3
     try clear c4
     try clear p4
     try clear q4
     try clear hx4
     try clear c5
     try clear p6
     try clear c7
     try clear c7b0
     try clear c7b1
     try clear c8
     try clear c9
     try clear c9b0
     try clear c9b1
     try clear c11
     try clear c16
     try clear c16b0
     try clear c16b1
     try clear c18
     try clear c21
     try clear c21b0
     try clear c21b1
     try clear c22
     try clear c23
     try clear c23b0
     try clear c23b1
     try clear c24
     try clear c25
     try clear c26
     try clear c31
     try clear c31b0
     try clear c31b1
     try clear c34
     try clear c37
     try clear c37b0
     try clear c37b1
     try clear c40
     try clear c41
     try clear c44
     try clear c46
     try clear c46b0
     try clear c47
     try clear c47b0
     try clear p47
     try clear q47
     try clear hx47
     try clear c48
     try clear c48b0
     try clear c50
     try clear hcz12_0
     try clear hcz12_1
     try clear hcz12_2
     try clear hcz12_3
     try clear hcz12_4
     try clear hcz12_5
     try clear hcz12_6
     try clear hcz12_7
     try clear hcz12_8
     try clear hcz12_9
     try clear hcz14_0
     try clear hcz14_1
     try clear hcz14_2
     try clear hcz14_3
     try clear hcz14_4
     try clear hcz14_5
     try clear hcz14_6
     try clear hcz14_7
     try clear hcz14_8
     try clear hcz14_9
     try clear hcz19_0
     try clear hcz19_1
     try clear hcz19_2
     try clear hcz19_3
     try clear hcz19_4
     try clear hcz19_5
     try clear hcz19_6
     try clear hcz19_7
     try clear hcz19_8
     try clear hcz19_9
     try clear hcz20_0
     try clear hcz20_1
     try clear hcz20_2
     try clear hcz20_3
     try clear hcz20_4
     try clear hcz20_5
     try clear hcz20_6
     try clear hcz20_7
     try clear hcz20_8
     try clear hcz20_9
     try clear hcz26_0
     try clear hcz26_1
     try clear hcz26_2
     try clear hcz26_3
     try clear hcz26_4
     try clear hcz26_5
     try clear hcz26_6
     try clear hcz26_7
     try clear hcz26_8
     try clear hcz26_9
     try clear hcz28_0
     try clear hcz28_1
     try clear hcz28_2
     try clear hcz28_3
     try clear hcz28_4
     try clear hcz28_5
     try clear hcz28_6
     try clear hcz28_7
     try clear hcz28_8
     try clear hcz28_9
     try clear hcz30_0
     try clear hcz30_1
     try clear hcz30_2
     try clear hcz30_3
     try clear hcz30_4
     try clear hcz30_5
     try clear hcz30_6
     try clear hcz30_7
     try clear hcz30_8
     try clear hcz30_9
     try clear hcz32_0
     try clear hcz32_1
     try clear hcz32_2
     try clear hcz32_3
     try clear hcz32_4
     try clear hcz32_5
     try clear hcz32_6
     try clear hcz32_7
     try clear hcz32_8
     try clear hcz32_9
     try clear hcz35_0
     try clear hcz35_1
     try clear hcz35_2
     try clear hcz35_3
     try clear hcz35_4
     try clear hcz35_5
     try clear hcz35_6
     try clear hcz35_7
     try clear hcz35_8
     try clear hcz35_9
     try clear hcz36_0
     try clear hcz36_1
     try clear hcz36_2
     try clear hcz36_3
     try clear hcz36_4
     try clear hcz36_5
     try clear hcz36_6
     try clear hcz36_7
     try clear hcz36_8
     try clear hcz36_9
     try clear hcz42_0
     try clear hcz42_1
     try clear hcz42_2
     try clear hcz42_3
     try clear hcz42_4
     try clear hcz42_5
     try clear hcz42_6
     try clear hcz42_7
     try clear hcz42_8
     try clear hcz42_9
     try clear hcz43_0
     try clear hcz43_1
     try clear hcz43_2
     try clear hcz43_3
     try clear hcz43_4
     try clear hcz43_5
     try clear hcz43_6
     try clear hcz43_7
     try clear hcz43_8
     try clear hcz43_9
     try clear hcz45_0
     try clear hcz45_1
     try clear hcz45_2
     try clear hcz45_3
     try clear hcz45_4
     try clear hcz45_5
     try clear hcz45_6
     try clear hcz45_7
     try clear hcz45_8
     try clear hcz45_9
     try clear hcz55_0
     try clear hcz55_1
     try clear hcz55_2
     try clear hcz55_3
     try clear hcz55_4
     try clear hcz55_5
     try clear hcz55_6
     try clear hcz55_7
     try clear hcz55_8
     try clear hcz55_9
     try clear hcz5_0
     try clear hcz5_1
     try clear hcz5_2
     try clear hcz5_3
     try clear hcz5_4
     try clear hcz5_5
     try clear hcz5_6
     try clear hcz5_7
     try clear hcz5_8
     try clear hcz5_9
     try clear hfz12_0
     try clear hfz12_1
     try clear hfz12_2
     try clear hfz12_3
     try clear hfz12_4
     try clear hfz12_5
     try clear hfz12_6
     try clear hfz12_7
     try clear hfz12_8
     try clear hfz12_9
     try clear hfz14_0
     try clear hfz14_1
     try clear hfz14_2
     try clear hfz14_3
     try clear hfz14_4
     try clear hfz14_5
     try clear hfz14_6
     try clear hfz14_7
     try clear hfz14_8
     try clear hfz14_9
     try clear hfz19_0
     try clear hfz19_1
     try clear hfz19_2
     try clear hfz19_3
     try clear hfz19_4
     try clear hfz19_5
     try clear hfz19_6
     try clear hfz19_7
     try clear hfz19_8
     try clear hfz19_9
     try clear hfz20_0
     try clear hfz20_1
     try clear hfz20_2
     try clear hfz20_3
     try clear hfz20_4
     try clear hfz20_5
     try clear hfz20_6
     try clear hfz20_7
     try clear hfz20_8
     try clear hfz20_9
     try clear hfz26_0
     try clear hfz26_1
     try clear hfz26_2
     try clear hfz26_3
     try clear hfz26_4
     try clear hfz26_5
     try clear hfz26_6
     try clear hfz26_7
     try clear hfz26_8
     try clear hfz26_9
     try clear hfz28_0
     try clear hfz28_1
     try clear hfz28_2
     try clear hfz28_3
     try clear hfz28_4
     try clear hfz28_5
     try clear hfz28_6
     try clear hfz28_7
     try clear hfz28_8
     try clear hfz28_9
     try clear hfz30_0
     try clear hfz30_1
     try clear hfz30_2
     try clear hfz30_3
     try clear hfz30_4
     try clear hfz30_5
     try clear hfz30_6
     try clear hfz30_7
     try clear hfz30_8
     try clear hfz30_9
     try clear hfz32_0
     try clear hfz32_1
     try clear hfz32_2
     try clear hfz32_3
     try clear hfz32_4
     try clear hfz32_5
     try clear hfz32_6
     try clear hfz32_7
     try clear hfz32_8
     try clear hfz32_9
     try clear hfz35_0
     try clear hfz35_1
     try clear hfz35_2
     try clear hfz35_3
     try clear hfz35_4
     try clear hfz35_5
     try clear hfz35_6
     try clear hfz35_7
     try clear hfz35_8
     try clear hfz35_9
     try clear hfz36_0
     try clear hfz36_1
     try clear hfz36_2
     try clear hfz36_3
     try clear hfz36_4
     try clear hfz36_5
     try clear hfz36_6
     try clear hfz36_7
     try clear hfz36_8
     try clear hfz36_9
     try clear hfz42_0
     try clear hfz42_1
     try clear hfz42_2
     try clear hfz42_3
     try clear hfz42_4
     try clear hfz42_5
     try clear hfz42_6
     try clear hfz42_7
     try clear hfz42_8
     try clear hfz42_9
     try clear hfz43_0
     try clear hfz43_1
     try clear hfz43_2
     try clear hfz43_3
     try clear hfz43_4
     try clear hfz43_5
     try clear hfz43_6
     try clear hfz43_7
     try clear hfz43_8
     try clear hfz43_9
     try clear hfz45_0
     try clear hfz45_1
     try clear hfz45_2
     try clear hfz45_3
     try clear hfz45_4
     try clear hfz45_5
     try clear hfz45_6
     try clear hfz45_7
     try clear hfz45_8
     try clear hfz45_9
     try clear hfz55_0
     try clear hfz55_1
     try clear hfz55_2
     try clear hfz55_3
     try clear hfz55_4
     try clear hfz55_5
     try clear hfz55_6
     try clear hfz55_7
     try clear hfz55_8
     try clear hfz55_9
     try clear hfz5_0
     try clear hfz5_1
     try clear hfz5_2
     try clear hfz5_3
     try clear hfz5_4
     try clear hfz5_5
     try clear hfz5_6
     try clear hfz5_7
     try clear hfz5_8
     try clear hfz5_9
     try clear hx479_0
     try clear p2
     try clear p4
     try clear p47
     try clear p479
     try clear p6
     try clear q4
     try clear q47
     try clear q479
     obtain ⟨x7_2, x81_2, rfl, HA, HK2, HO_7, BK472, HB⟩ := hrel
     cases gk with
     | zero => exact absurd HA.out (by simp [spec_inXMLs.l1])
     | succ k2 =>
       have H := HA.out
       clear HA
       simp only [spec_inXMLs.l1] at H
       by_cases c56 : x81_2 < (l0_9.length : Int)
       ·rw [if_pos c56] at H
        have c56b0 : decide (x81_2 < (l0_9.length : Int)) = true := decide_eq_true c56
        clear c56
        by_cases c57 : 0 ≤ x81_2
        ·rw [if_pos c57] at H
         have c57b0 : decide (0 ≤ x81_2) = true := decide_eq_true c57
         clear c57
         by_cases c58 : x81_2 < (l0_9.length : Int)
         ·rw [if_pos c58] at H
          have c58b0 : decide (x81_2 < (l0_9.length : Int)) = true := decide_eq_true c58
          clear c58
          have HC59 := Aside0.mk H
          clear H
          have p485 : 0 ≤ (x81_2 : Int) := of_decide_eq_true (by first | (with_reducible assumption) | assumption)
          have q485 : x81_2 < (l0_9.length : Int) := of_decide_eq_true (by first | (with_reducible assumption) | assumption)
          obtain ⟨ad485, e485, hx485_0, hx485_1, hx485_2⟩ := at_T45 HR0_9.out x81_2 p485 q485
          cases e485
          replace hx485_0 := (HB.out.cell (World.block_lt_of_cell? w _ hx485_0)).trans hx485_0
          replace hx485_1 := (HB.out.cell (World.block_lt_of_cell? w _ hx485_1)).trans hx485_1
          replace hx485_2 := (HB.out.cell (World.block_lt_of_cell? w _ hx485_2)).trans hx485_2
          replace p485 := eq_true p485
          replace q485 := eq_true q485
          go_upto_if 88 with (first | ((with_reducible refine gate_dst (N := 9) rfl ?_); refine box_event ?hg (N := 9) ?hd (cs := #[.string (⟨#[]⟩ : ByteArray), .string (⟨#[]⟩ : ByteArray), .bool false]) (t := 45) ?hr ?_; (case hd => rfl); (case hg => rfl); (case hr => first | (go_simp; done) | (go_simp; rfl)); intro gb486 hg w60 hbox hb; have n0_ := Aside0.mk (Kd.R_below (by (with_reducible repeat (first | apply Kd.R_alloc | apply Kd.R_drewN | apply Kd.R_drew)); exact HO_7.out) hb); have n1_ := Aside0.mk (blk_below (g := gb472) (o := .cells #[.int .i64 a0_0, .string a0_1, .int .i64 a0_2, .slice A0_3 l0_3.length c0_3, .slice A0_4 l0_4.length c0_4, .slice A0_5 l0_5.length c0_5, .string a0_6, .string a0_7, .string a0_8, .slice (some ad485) l0_9.length c0_9] 28 (0, 0)) (by (with_reducible repeat (fail)); exact BK472.out) hb); have n2_ := Aside0.mk (below_step (by repeat ((with_reducible exact HB.out))) hb); have n3_ := Aside0.mk (hbox); have n4_ := Aside0.mk ((by rw [hg]; exact (below_size (by repeat ((with_reducible exact HB.out)))) : w.heap.size ≤ gb486)); have n5_ := Aside0.mk ((by rw [hg]; exact (below_size (by repeat ((with_reducible exact HB.out)))) : w.heap.size ≤ gb486)); have n6_ := Aside0.mk ((by rw [hg]; exact Nat.ne_of_lt (blk_lt (g := gb472) (o := .cells #[.int .i64 a0_0, .string a0_1, .int .i64 a0_2, .slice A0_3 l0_3.length c0_3, .slice A0_4 l0_4.length c0_4, .slice A0_5 l0_5.length c0_5, .string a0_6, .string a0_7, .string a0_8, .slice (some ad485) l0_9.length c0_9] 28 (0, 0)) (by (with_reducible repeat (fail)); exact BK472.out)) : gb472 ≠ gb486)); have n7_ := Aside0.mk ((by rw [hg]; exact Nat.ne_of_gt (blk_lt (g := gb472) (o := .cells #[.int .i64 a0_0, .string a0_1, .int .i64 a0_2, .slice A0_3 l0_3.length c0_3, .slice A0_4 l0_4.length c0_4, .slice A0_5 l0_5.length c0_5, .string a0_6, .string a0_7, .string a0_8, .slice (some ad485) l0_9.length c0_9] 28 (0, 0)) (by (with_reducible repeat (fail)); exact BK472.out)) : gb486 ≠ gb472)); clear HO_7; clear BK472; clear HB; have HO_7 := n0_; have BK472 := n1_; have HB := n2_; have BK486 := n3_; have GW486 := n4_; have GE486 := n5_; have NB472_486 := n6_; have NB486_472 := n7_; clear n0_ n1_ n2_ n3_ n4_ n5_ n6_ n7_; clear hb hbox hg; have hnb61 := NB486_472.out; have hnc61 := NB472_486.out; have hcz62_0 : w60.cell? ⟨gb486, 0, none⟩ = some (.string (⟨#[]⟩ : ByteArray)) := (blk_cell BK486.out 0).trans rfl; have hcz62_1 : w60.cell? ⟨gb486, 1, none⟩ = some (.string (⟨#[]⟩ : ByteArray)) := (blk_cell BK486.out 1).trans rfl; have hcz62_2 : w60.cell? ⟨gb486, 2, none⟩ = some (.bool false) := (blk_cell BK486.out 2).trans rfl; have hfz62_0 := blk_frozen BK486.out 0; have hfz62_1 := blk_frozen BK486.out 1; have hfz62_2 := blk_frozen BK486.out 2))
          (skip)
          go_cut [10] (fun v10 wc => ∃ (kq : Nat) (x10_58 : ByteArray), v10 = .string x10_58 ∧ Aside0 (spec_inXMLs.j5 kq x7_2 x10_58 l0_9 (l0_9.length : Int) x81_2 ((rd_T45 l0_9 x81_2).f0) ((rd_T45 l0_9 x81_2).f1) ((rd_T45 l0_9 x81_2).f2) = some r) ∧ Aside0 (kq ≤ k2) ∧ Aside0 (Kd.R Kd.string 9 wc w.heap.size (fun _ => True) u7 x7_2) ∧ Aside0 (wc.heap[gb472]? = some (.cells #[.int .i64 a0_0, .string a0_1, .int .i64 a0_2, (.slice A0_3 l0_3.length c0_3), (.slice A0_4 l0_4.length c0_4), (.slice A0_5 l0_5.length c0_5), .string a0_6, .string a0_7, .string a0_8, (.slice (some ad485) l0_9.length c0_9)] 28 (0, 0))) ∧ Aside0 (wc.heap[gb486]? = some (.cells #[.string ((rd_T45 l0_9 x81_2).f0), .string ((rd_T45 l0_9 x81_2).f1), .bool ((rd_T45 l0_9 x81_2).f2)] 45 (0, 0))) ∧ Aside0 (Below w.heap.size w wc))
          case first =>
           have H := HC59.out
           clear HC59
           obtain ⟨bq63, hbq63⟩ : ∃ b_ : Bool, b_ = ((rd_T45 l0_9 x81_2).f2) := ⟨_, rfl⟩
           replace H : (if bq63 = true then (if 6 + ((rd_T45 l0_9 x81_2).f0).size ≤ 9223372036854775807 then (spec_inXMLs.j5 k2 x7_2 ((⟨#[120, 109, 108, 110, 115, 58]⟩ : ByteArray) ++ ((rd_T45 l0_9 x81_2).f0)) l0_9 (l0_9.length : Int) x81_2 ((rd_T45 l0_9 x81_2).f0) ((rd_T45 l0_9 x81_2).f1) bq63) else (none)) else (spec_inXMLs.j5 k2 x7_2 ((rd_T45 l0_9 x81_2).f0) l0_9 (l0_9.length : Int) x81_2 ((rd_T45 l0_9 x81_2).f0) ((rd_T45 l0_9 x81_2).f1) bq63)) = some r := by rw [← hbq63] at H; exact H
           have Nbq63 := Aside0.mk hbq63
           clear hbq63
           (try rw [← Nbq63.out])
           by_cases c64 : bq63 = true
           ·subst c64
            have H1 : (if 6 + ((rd_T45 l0_9 x81_2).f0).size ≤ 9223372036854775807 then (spec_inXMLs.j5 k2 x7_2 ((⟨#[120, 109, 108, 110, 115, 58]⟩ : ByteArray) ++ ((rd_T45 l0_9 x81_2).f0)) l0_9 (l0_9.length : Int) x81_2 ((rd_T45 l0_9 x81_2).f0) ((rd_T45 l0_9 x81_2).f1) true) else (none)) = some r := by rw [if_pos rfl] at H; exact H
            clear H
            have H := H1
            clear H1
            by_cases c65 : 6 + ((rd_T45 l0_9 x81_2).f0).size ≤ 9223372036854775807
            ·rw [if_pos c65] at H
             have c65b0 := eq_true c65
             have c65b1 : decide (6 + ((rd_T45 l0_9 x81_2).f0).size ≤ 9223372036854775807) = true := decide_eq_true c65
             try have c65b2 : (9223372036854775807 < 6 + ((rd_T45 l0_9 x81_2).f0).size) = False := eq_false (Nat.not_lt.2 c65)
             have H' := Aside0.mk H
             clear H
             have hnb66 := NB486_472.out
             have hnc66 := NB472_486.out
             have hcz67_0 : w60.cell? ⟨gb486, 0, none⟩ = some (.string (⟨#[]⟩ : ByteArray)) := (blk_cell BK486.out 0).trans rfl
             have hcz67_1 : w60.cell? ⟨gb486, 1, none⟩ = some (.string (⟨#[]⟩ : ByteArray)) := (blk_cell BK486.out 1).trans rfl
             have hcz67_2 : w60.cell? ⟨gb486, 2, none⟩ = some (.bool false) := (blk_cell BK486.out 2).trans rfl
             have hfz67_0 := blk_frozen BK486.out 0
             have hfz67_1 := blk_frozen BK486.out 1
             have hfz67_2 := blk_frozen BK486.out 2
             go_wp2
             go_meet
             case rel => rw [← Nbq63.out]; exact ⟨_, ((⟨#[120, 109, 108, 110, 115, 58]⟩ : ByteArray) ++ ((rd_T45 l0_9 x81_2).f0)), (by first | rfl | (simp; done) | (simp [*]; done)), H', ⟨by have := HJ2.out; have := HK2.out; first | omega | exact Nat.le_refl _⟩, ⟨by (with_reducible repeat (first | apply Kd.R_alloc | apply Kd.R_drewN | apply Kd.R_drew)); exact Kd.R_mono (Kd.R_far (p := ⟨gb486, 2, none⟩) (Kd.R_far (p := ⟨gb486, 1, none⟩) (Kd.R_far (p := ⟨gb486, 0, none⟩) (Kd.R_types HO_7.out BK486.out (by decide)) (fun _ hk => hk.2) (.string ((rd_T45 l0_9 x81_2).f0))) (fun _ hk => hk.2) (.string ((rd_T45 l0_9 x81_2).f1))) (fun _ hk => hk.2) (.bool (true))) (fun _ hk => trivial)⟩, ⟨by (with_reducible repeat (fail)); refine blk_far ?_ NB472_486.out _; (with_reducible repeat (fail)); refine blk_far ?_ NB472_486.out _; (with_reducible repeat (fail)); refine blk_far ?_ NB472_486.out _; (with_reducible repeat (fail)); exact BK472.out⟩, ⟨by (with_reducible repeat (fail)); refine blk_put (cs := #[.string ((rd_T45 l0_9 x81_2).f0), .string ((rd_T45 l0_9 x81_2).f1), .bool false]) ?_ 2 _ rfl; (with_reducible repeat (fail)); refine blk_put (cs := #[.string ((rd_T45 l0_9 x81_2).f0), .string (⟨#[]⟩ : ByteArray), .bool false]) ?_ 1 _ rfl; (with_reducible repeat (fail)); refine blk_put (cs := #[.string (⟨#[]⟩ : ByteArray), .string (⟨#[]⟩ : ByteArray), .bool false]) ?_ 0 _ rfl; (with_reducible repeat (fail)); exact BK486.out⟩, ⟨by repeat ((with_reducible first | exact HB.out | refine below_set ?_ GE486.out))⟩⟩
            ·rw [if_neg c65] at H
             exact absurd H (by simp)
           ·replace c64 := Bool.eq_false_iff.mpr c64
            subst c64
            have H1 : (spec_inXMLs.j5 k2 x7_2 ((rd_T45 l0_9 x81_2).f0) l0_9 (l0_9.length : Int) x81_2 ((rd_T45 l0_9 x81_2).f0) ((rd_T45 l0_9 x81_2).f1) false) = some r := by rw [if_neg (show ¬ (false = true) by decide)] at H; exact H
            clear H
            have H := H1
            clear H1
            have H' := Aside0.mk H
            clear H
            go_wp2
            go_meet
            case rel => rw [← Nbq63.out]; exact ⟨_, ((rd_T45 l0_9 x81_2).f0), (by first | rfl | (simp; done) | (simp [*]; done)), H', ⟨by have := HJ2.out; have := HK2.out; first | omega | exact Nat.le_refl _⟩, ⟨by (with_reducible repeat (first | apply Kd.R_alloc | apply Kd.R_drewN | apply Kd.R_drew)); exact Kd.R_mono (Kd.R_far (p := ⟨gb486, 2, none⟩) (Kd.R_far (p := ⟨gb486, 1, none⟩) (Kd.R_far (p := ⟨gb486, 0, none⟩) (Kd.R_types HO_7.out BK486.out (by decide)) (fun _ hk => hk.2) (.string ((rd_T45 l0_9 x81_2).f0))) (fun _ hk => hk.2) (.string ((rd_T45 l0_9 x81_2).f1))) (fun _ hk => hk.2) (.bool (false))) (fun _ hk => trivial)⟩, ⟨by (with_reducible repeat (fail)); refine blk_far ?_ NB472_486.out _; (with_reducible repeat (fail)); refine blk_far ?_ NB472_486.out _; (with_reducible repeat (fail)); refine blk_far ?_ NB472_486.out _; (with_reducible repeat (fail)); exact BK472.out⟩, ⟨by (with_reducible repeat (fail)); refine blk_put (cs := #[.string ((rd_T45 l0_9 x81_2).f0), .string ((rd_T45 l0_9 x81_2).f1), .bool false]) ?_ 2 _ rfl; (with_reducible repeat (fail)); refine blk_put (cs := #[.string ((rd_T45 l0_9 x81_2).f0), .string (⟨#[]⟩ : ByteArray), .bool false]) ?_ 1 _ rfl; (with_reducible repeat (fail)); refine blk_put (cs := #[.string (⟨#[]⟩ : ByteArray), .string (⟨#[]⟩ : ByteArray), .bool false]) ?_ 0 _ rfl; (with_reducible repeat (fail)); exact BK486.out⟩, ⟨by repeat ((with_reducible first | exact HB.out | refine below_set ?_ GE486.out))⟩⟩
          case rest =>
           clear HC59
           try clear c1
           try clear c2
           try clear p2
           try clear c3
           try clear c4
           try clear p4
           try clear q4
           try clear hx4
           try clear c5
           try clear c6
           try clear p6
           try clear q6
           try clear c7
           try clear c7b0
           try clear c7b1
           try clear c8
           try clear c9
           try clear c9b0
           try clear c9b1
           try clear c11
           try clear c16
           try clear c16b0
           try clear c16b1
           try clear c18
           try clear c21
           try clear c21b0
           try clear c21b1
           try clear c22
           try clear c23
           try clear c23b0
           try clear c23b1
           try clear c24
           try clear c25
           try clear c26
           try clear c31
           try clear c31b0
           try clear c31b1
           try clear c34
           try clear c37
           try clear c37b0
           try clear c37b1
           try clear c40
           try clear c41
           try clear c44
           try clear c46
           try clear c46b0
           try clear c47
           try clear c47b0
           try clear p47
           try clear q47
           try clear hx47
           try clear c48
           try clear c48b0
           try clear p48
           try clear q48
           try clear hx48
           try clear c50
           try clear c56
           try clear c56b0
           try clear c57
           try clear c57b0
           try clear c58
           try clear c58b0
           try clear c61
           try clear q63
           try clear c64
           try clear c65
           try clear c65b0
           try clear c65b1
           try clear c65b2
           try clear c66
           try clear hcz12_0
           try clear hcz12_1
           try clear hcz12_2
           try clear hcz12_3
           try clear hcz12_4
           try clear hcz12_5
           try clear hcz12_6
           try clear hcz12_7
           try clear hcz12_8
           try clear hcz12_9
           try clear hcz14_0
           try clear hcz14_1
           try clear hcz14_2
           try clear hcz14_3
           try clear hcz14_4
           try clear hcz14_5
           try clear hcz14_6
           try clear hcz14_7
           try clear hcz14_8
           try clear hcz14_9
           try clear hcz19_0
           try clear hcz19_1
           try clear hcz19_2
           try clear hcz19_3
           try clear hcz19_4
           try clear hcz19_5
           try clear hcz19_6
           try clear hcz19_7
           try clear hcz19_8
           try clear hcz19_9
           try clear hcz20_0
           try clear hcz20_1
           try clear hcz20_2
           try clear hcz20_3
           try clear hcz20_4
           try clear hcz20_5
           try clear hcz20_6
           try clear hcz20_7
           try clear hcz20_8
           try clear hcz20_9
           try clear hcz26_0
           try clear hcz26_1
           try clear hcz26_2
           try clear hcz26_3
           try clear hcz26_4
           try clear hcz26_5
           try clear hcz26_6
           try clear hcz26_7
           try clear hcz26_8
           try clear hcz26_9
           try clear hcz28_0
           try clear hcz28_1
           try clear hcz28_2
           try clear hcz28_3
           try clear hcz28_4
           try clear hcz28_5
           try clear hcz28_6
           try clear hcz28_7
           try clear hcz28_8
           try clear hcz28_9
           try clear hcz30_0
           try clear hcz30_1
           try clear hcz30_2
           try clear hcz30_3
           try clear hcz30_4
           try clear hcz30_5
           try clear hcz30_6
           try clear hcz30_7
           try clear hcz30_8
           try clear hcz30_9
           try clear hcz32_0
           try clear hcz32_1
           try clear hcz32_2
           try clear hcz32_3
           try clear hcz32_4
           try clear hcz32_5
           try clear hcz32_6
           try clear hcz32_7
           try clear hcz32_8
           try clear hcz32_9
           try clear hcz35_0
           try clear hcz35_1
           try clear hcz35_2
           try clear hcz35_3
           try clear hcz35_4
           try clear hcz35_5
           try clear hcz35_6
           try clear hcz35_7
           try clear hcz35_8
           try clear hcz35_9
           try clear hcz36_0
           try clear hcz36_1
           try clear hcz36_2
           try clear hcz36_3
           try clear hcz36_4
           try clear hcz36_5
           try clear hcz36_6
           try clear hcz36_7
           try clear hcz36_8
           try clear hcz36_9
           try clear hcz42_0
           try clear hcz42_1
           try clear hcz42_2
           try clear hcz42_3
           try clear hcz42_4
           try clear hcz42_5
           try clear hcz42_6
           try clear hcz42_7
           try clear hcz42_8
           try clear hcz42_9
           try clear hcz43_0
           try clear hcz43_1
           try clear hcz43_2
           try clear hcz43_3
           try clear hcz43_4
           try clear hcz43_5
           try clear hcz43_6
           try clear hcz43_7
           try clear hcz43_8
           try clear hcz43_9
           try clear hcz45_0
           try clear hcz45_1
           try clear hcz45_2
           try clear hcz45_3
           try clear hcz45_4
           try clear hcz45_5
           try clear hcz45_6
           try clear hcz45_7
           try clear hcz45_8
           try clear hcz45_9
           try clear hcz55_0
           try clear hcz55_1
           try clear hcz55_2
           try clear hcz55_3
           try clear hcz55_4
           try clear hcz55_5
           try clear hcz55_6
           try clear hcz55_7
           try clear hcz55_8
           try clear hcz55_9
           try clear hcz5_0
           try clear hcz5_1
           try clear hcz5_2
           try clear hcz5_3
           try clear hcz5_4
           try clear hcz5_5
           try clear hcz5_6
           try clear hcz5_7
           try clear hcz5_8
           try clear hcz5_9
           try clear hcz62_0
           try clear hcz62_1
           try clear hcz62_2
           try clear hcz67_0
           try clear hcz67_1
           try clear hcz67_2
           try clear hfz12_0
           try clear hfz12_1
           try clear hfz12_2
           try clear hfz12_3
           try clear hfz12_4
           try clear hfz12_5
           try clear hfz12_6
           try clear hfz12_7
           try clear hfz12_8
           try clear hfz12_9
           try clear hfz14_0
           try clear hfz14_1
           try clear hfz14_2
           try clear hfz14_3
           try clear hfz14_4
           try clear hfz14_5
           try clear hfz14_6
           try clear hfz14_7
           try clear hfz14_8
           try clear hfz14_9
           try clear hfz19_0
           try clear hfz19_1
           try clear hfz19_2
           try clear hfz19_3
           try clear hfz19_4
           try clear hfz19_5
           try clear hfz19_6
           try clear hfz19_7
           try clear hfz19_8
           try clear hfz19_9
           try clear hfz20_0
           try clear hfz20_1
           try clear hfz20_2
           try clear hfz20_3
           try clear hfz20_4
           try clear hfz20_5
           try clear hfz20_6
           try clear hfz20_7
           try clear hfz20_8
           try clear hfz20_9
           try clear hfz26_0
           try clear hfz26_1
           try clear hfz26_2
           try clear hfz26_3
           try clear hfz26_4
           try clear hfz26_5
           try clear hfz26_6
           try clear hfz26_7
           try clear hfz26_8
           try clear hfz26_9
           try clear hfz28_0
           try clear hfz28_1
           try clear hfz28_2
           try clear hfz28_3
           try clear hfz28_4
           try clear hfz28_5
           try clear hfz28_6
           try clear hfz28_7
           try clear hfz28_8
           try clear hfz28_9
           try clear hfz30_0
           try clear hfz30_1
           try clear hfz30_2
           try clear hfz30_3
           try clear hfz30_4
           try clear hfz30_5
           try clear hfz30_6
           try clear hfz30_7
           try clear hfz30_8
           try clear hfz30_9
           try clear hfz32_0
           try clear hfz32_1
           try clear hfz32_2
           try clear hfz32_3
           try clear hfz32_4
           try clear hfz32_5
           try clear hfz32_6
           try clear hfz32_7
           try clear hfz32_8
           try clear hfz32_9
           try clear hfz35_0
           try clear hfz35_1
           try clear hfz35_2
           try clear hfz35_3
           try clear hfz35_4
           try clear hfz35_5
           try clear hfz35_6
           try clear hfz35_7
           try clear hfz35_8
           try clear hfz35_9
           try clear hfz36_0
           try clear hfz36_1
           try clear hfz36_2
           try clear hfz36_3
           try clear hfz36_4
           try clear hfz36_5
           try clear hfz36_6
           try clear hfz36_7
           try clear hfz36_8
           try clear hfz36_9
           try clear hfz42_0
           try clear hfz42_1
           try clear hfz42_2
           try clear hfz42_3
           try clear hfz42_4
           try clear hfz42_5
           try clear hfz42_6
           try clear hfz42_7
           try clear hfz42_8
           try clear hfz42_9
           try clear hfz43_0
           try clear hfz43_1
           try clear hfz43_2
           try clear hfz43_3
           try clear hfz43_4
           try clear hfz43_5
           try clear hfz43_6
           try clear hfz43_7
           try clear hfz43_8
           try clear hfz43_9
           try clear hfz45_0
           try clear hfz45_1
           try clear hfz45_2
           try clear hfz45_3
           try clear hfz45_4
           try clear hfz45_5
           try clear hfz45_6
           try clear hfz45_7
           try clear hfz45_8
           try clear hfz45_9
           try clear hfz55_0
           try clear hfz55_1
           try clear hfz55_2
           try clear hfz55_3
           try clear hfz55_4
           try clear hfz55_5
           try clear hfz55_6
           try clear hfz55_7
           try clear hfz55_8
           try clear hfz55_9
           try clear hfz5_0
           try clear hfz5_1
           try clear hfz5_2
           try clear hfz5_3
           try clear hfz5_4
           try clear hfz5_5
           try clear hfz5_6
           try clear hfz5_7
           try clear hfz5_8
           try clear hfz5_9
           try clear hfz62_0
           try clear hfz62_1
           try clear hfz62_2
           try clear hfz67_0
           try clear hfz67_1
           try clear hfz67_2
           try clear hx479_0
           try clear hx485_0
           try clear hx485_1
           try clear hx485_2
           try clear p2
           try clear p4
           try clear p47
           try clear p479
           try clear p485
           try clear p6
           try clear q4
           try clear q47
           try clear q479
           try clear q485
           obtain ⟨kq, x10_58, rfl, HA, HJ58, HO_7, BK472, BK486, HB⟩ := hcut
           cases kq with
           | zero => exact absurd HA.out (by simp [spec_inXMLs.j5])
           | succ kj58 =>
             have H := HA.out
             clear HA
             simp only [spec_inXMLs.j5] at H
             by_cases c68 : x7_2.length < 8796093022208
             ·rw [if_pos c68] at H
              have LMc68 := Aside0.mk c68
              clear c68
              obtain ⟨y487, hy487⟩ : ∃ y_ : List ByteArray, y_ = (x7_2 ++ [x10_58]) := ⟨_, rfl⟩
              replace H : ((spec_isWord.f kj58 ((rd_T45 l0_9 x81_2).f0)).bind fun t490 => (if t490 = true then ((spec_small.f ((rd_T45 l0_9 x81_2).f0)).bind fun t491 => ((spec_Begins.f t491 (⟨#[120, 109, 108]⟩ : ByteArray)).bind fun t492 => (if t492 = true then (some false) else ((spec_areChars.f ((rd_T45 l0_9 x81_2).f1)).bind fun t493 => (if t493 = true then (if ((rd_T45 l0_9 x81_2).f2) = true then (if ((rd_T45 l0_9 x81_2).f1).toList = ([] : List UInt8) then (some false) else (spec_inXMLs.l1 kj58 y487 l0_9 (l0_9.length : Int) (wrap64 (x81_2 + 1)))) else (spec_inXMLs.l1 kj58 y487 l0_9 (l0_9.length : Int) (wrap64 (x81_2 + 1)))) else (some false)))))) else (some false))) = some r := by (have H2_ := (Option.bind_some _ _).symm.trans H; rw [hy487]; with_reducible exact H2_)
              have Ny487 := Aside0.mk hy487
              clear hy487
              replace H := Option.bind_eq_some_iff.mp H
              obtain ⟨t490, A690, H⟩ := H
              replace H : (if t490 = true then ((spec_small.f ((rd_T45 l0_9 x81_2).f0)).bind fun t491 => ((spec_Begins.f t491 (⟨#[120, 109, 108]⟩ : ByteArray)).bind fun t492 => (if t492 = true then (some false) else ((spec_areChars.f ((rd_T45 l0_9 x81_2).f1)).bind fun t493 => (if t493 = true then (if ((rd_T45 l0_9 x81_2).f2) = true then (if ((rd_T45 l0_9 x81_2).f1).toList = ([] : List UInt8) then (some false) else (spec_inXMLs.l1 kj58 y487 l0_9 (l0_9.length : Int) (wrap64 (x81_2 + 1)))) else (spec_inXMLs.l1 kj58 y487 l0_9 (l0_9.length : Int) (wrap64 (x81_2 + 1)))) else (some false)))))) else (some false)) = some r := H
              have A69 := Aside0.mk A690
              clear A690
              by_cases c70 : t490 = true
              ·subst c70
               have H1 : ((spec_small.f ((rd_T45 l0_9 x81_2).f0)).bind fun t491 => ((spec_Begins.f t491 (⟨#[120, 109, 108]⟩ : ByteArray)).bind fun t492 => (if t492 = true then (some false) else ((spec_areChars.f ((rd_T45 l0_9 x81_2).f1)).bind fun t493 => (if t493 = true then (if ((rd_T45 l0_9 x81_2).f2) = true then (if ((rd_T45 l0_9 x81_2).f1).toList = ([] : List UInt8) then (some false) else (spec_inXMLs.l1 kj58 y487 l0_9 (l0_9.length : Int) (wrap64 (x81_2 + 1)))) else (spec_inXMLs.l1 kj58 y487 l0_9 (l0_9.length : Int) (wrap64 (x81_2 + 1)))) else (some false)))))) = some r := by rw [if_pos rfl] at H; exact H
               clear H
               have H := H1
               clear H1
               replace H := Option.bind_eq_some_iff.mp H
               obtain ⟨t491, A710, H⟩ := H
               replace H : ((spec_Begins.f t491 (⟨#[120, 109, 108]⟩ : ByteArray)).bind fun t492 => (if t492 = true then (some false) else ((spec_areChars.f ((rd_T45 l0_9 x81_2).f1)).bind fun t493 => (if t493 = true then (if ((rd_T45 l0_9 x81_2).f2) = true then (if ((rd_T45 l0_9 x81_2).f1).toList = ([] : List UInt8) then (some false) else (spec_inXMLs.l1 kj58 y487 l0_9 (l0_9.length : Int) (wrap64 (x81_2 + 1)))) else (spec_inXMLs.l1 kj58 y487 l0_9 (l0_9.length : Int) (wrap64 (x81_2 + 1)))) else (some false))))) = some r := H
               have A71 := Aside0.mk A710
               clear A710
               replace H := Option.bind_eq_some_iff.mp H
               obtain ⟨t492, A720, H⟩ := H
               replace H : (if t492 = true then (some false) else ((spec_areChars.f ((rd_T45 l0_9 x81_2).f1)).bind fun t493 => (if t493 = true then (if ((rd_T45 l0_9 x81_2).f2) = true then (if ((rd_T45 l0_9 x81_2).f1).toList = ([] : List UInt8) then (some false) else (spec_inXMLs.l1 kj58 y487 l0_9 (l0_9.length : Int) (wrap64 (x81_2 + 1)))) else (spec_inXMLs.l1 kj58 y487 l0_9 (l0_9.length : Int) (wrap64 (x81_2 + 1)))) else (some false)))) = some r := H
               have A72 := Aside0.mk A720
               clear A720
               by_cases c73 : t492 = true
               ·subst c73
                have H1 : (some false) = some r := by rw [if_pos rfl] at H; exact H
                clear H
                have H := H1
                clear H1
                obtain rfl := Option.some.inj H
                go_wp2_with (first | ((with_reducible refine gate_builtin (b := .append) (xs := #[.tmp 92, .tmp 94]) rfl ?_); at_builtin; refine Kd.R_append Kd.string (w0 := w) w.heap.size rfl (.tmp 92) (.tmp 94) 23 9 (.string ⟨#[]⟩) 16 rfl Tryz.underlying23 info9 rfl (by decide) (by omega) u7 x7_2 x10_58 [.string x10_58] (fun _ => True) (fun _ => False) rfl rfl ?aP (fun _ hk => hk.elim) ?aF ?aO ?aB ?aS ?aL ?_; (case aP => exact rfl); (case aB => exact (by repeat ((with_reducible exact HB.out)))); (case aF => exact (fun _ _ => trivial)); (case aO => exact (by (with_reducible repeat (first | apply Kd.R_alloc | apply Kd.R_drewN | apply Kd.R_drew)); exact HO_7.out)); (case aS => exact (below_size (by repeat ((with_reducible exact HB.out))))); (case aL => have := LMc68.out; omega); intro v488 w74 ho hb hg hat; rw [← Ny487.out] at ho; have n0_ := Aside0.mk (blk_grown (g := gb472) (o := .cells #[.int .i64 a0_0, .string a0_1, .int .i64 a0_2, .slice A0_3 l0_3.length c0_3, .slice A0_4 l0_4.length c0_4, .slice A0_5 l0_5.length c0_5, .string a0_6, .string a0_7, .string a0_8, .slice (some ad485) l0_9.length c0_9] 28 (0, 0)) (by (with_reducible repeat (fail)); exact BK472.out) hg (Kd.R_ne HO_7.out BK472.out (by decide))); have n1_ := Aside0.mk (blk_grown (g := gb486) (o := .cells #[.string ((rd_T45 l0_9 x81_2).f0), .string ((rd_T45 l0_9 x81_2).f1), .bool ((rd_T45 l0_9 x81_2).f2)] 45 (0, 0)) (by (with_reducible repeat (fail)); exact BK486.out) hg (Kd.R_ne HO_7.out BK486.out (by decide))); have n2_ := Aside0.mk (hb); have n3_ := Aside0.mk (ho); clear BK472; clear BK486; clear HB; clear HO_7; have BK472 := n0_; have BK486 := n1_; have HB := n2_; have HO489 := n3_; clear n0_ n1_ n2_ n3_; clear ho hb hg hat; have hnb75 := NB486_472.out; have hnc75 := NB472_486.out; have hcz76_0 : w74.cell? ⟨gb486, 0, none⟩ = some (.string ((rd_T45 l0_9 x81_2).f0)) := (blk_cell BK486.out 0).trans rfl; have hcz76_1 : w74.cell? ⟨gb486, 1, none⟩ = some (.string ((rd_T45 l0_9 x81_2).f1)) := (blk_cell BK486.out 1).trans rfl; have hcz76_2 : w74.cell? ⟨gb486, 2, none⟩ = some (.bool ((rd_T45 l0_9 x81_2).f2)) := (blk_cell BK486.out 2).trans rfl; have hfz76_0 := blk_frozen BK486.out 0; have hfz76_1 := blk_frozen BK486.out 1; have hfz76_2 := blk_frozen BK486.out 2) | ((with_reducible refine gate_callee (f := 24) rfl ?_); refine goesL_ (some 98) rfl rfl Tryz.func24 (by kernel_rfl) rfl #[.string ((rd_T45 l0_9 x81_2).f0)] rfl (by (try simp only [List.map_toArray, List.map_cons, List.map_nil]); rfl) ?_; (with_reducible refine (spec_isWord.calls kj58 ((rd_T45 l0_9 x81_2).f0) true _ A69.out).mono ?_); rintro e w' ⟨rfl, ⟨nd, rfl⟩⟩; refine ⟨_, rfl, ?_⟩) | (go_at_call 59; (with_reducible refine (spec_small.calls ((rd_T45 l0_9 x81_2).f0) t491 _ A71.out).mono ?_); rintro e w77 ⟨rfl, hb⟩; have n0_ := Aside0.mk (Kd.R_below (by (with_reducible repeat (first | apply Kd.R_alloc | apply Kd.R_drewN | apply Kd.R_drew)); exact HO489.out) hb); have n1_ := Aside0.mk (blk_below (g := gb472) (o := .cells #[.int .i64 a0_0, .string a0_1, .int .i64 a0_2, .slice A0_3 l0_3.length c0_3, .slice A0_4 l0_4.length c0_4, .slice A0_5 l0_5.length c0_5, .string a0_6, .string a0_7, .string a0_8, .slice (some ad485) l0_9.length c0_9] 28 (0, 0)) (by (with_reducible repeat (refine blk_drewN ?_ _)); exact BK472.out) hb); have n2_ := Aside0.mk (blk_below (g := gb486) (o := .cells #[.string ((rd_T45 l0_9 x81_2).f0), .string ((rd_T45 l0_9 x81_2).f1), .bool ((rd_T45 l0_9 x81_2).f2)] 45 (0, 0)) (by (with_reducible repeat (refine blk_drewN ?_ _)); exact BK486.out) hb); have n3_ := Aside0.mk (below_step (by repeat ((with_reducible first | exact HB.out | apply pw_below_drewN ))) hb); clear HO489; clear BK472; clear BK486; clear HB; have HO489 := n0_; have BK472 := n1_; have BK486 := n2_; have HB := n3_; clear n0_ n1_ n2_ n3_; (try clear hb); (try clear hb2); (try clear hk); (try clear hi)) | (go_at_call 58; (with_reducible refine (spec_Begins.calls t491 (⟨#[120, 109, 108]⟩ : ByteArray) true _ A72.out).mono ?_); rintro e w' ⟨rfl, ⟨nd, rfl⟩⟩))
                go_ret
                exact ⟨by rfl, by repeat ((with_reducible first | exact HB.out | apply pw_below_drewN ))⟩
               ·replace c73 := Bool.eq_false_iff.mpr c73
                subst c73
                have H1 : ((spec_areChars.f ((rd_T45 l0_9 x81_2).f1)).bind fun t493 => (if t493 = true then (if ((rd_T45 l0_9 x81_2).f2) = true then (if ((rd_T45 l0_9 x81_2).f1).toList = ([] : List UInt8) then (some false) else (spec_inXMLs.l1 kj58 y487 l0_9 (l0_9.length : Int) (wrap64 (x81_2 + 1)))) else (spec_inXMLs.l1 kj58 y487 l0_9 (l0_9.length : Int) (wrap64 (x81_2 + 1)))) else (some false))) = some r := by rw [if_neg (show ¬ (false = true) by decide)] at H; exact H
                clear H
                have H := H1
                clear H1
                replace H := Option.bind_eq_some_iff.mp H
                obtain ⟨t493, A780, H⟩ := H
                replace H : (if t493 = true then (if ((rd_T45 l0_9 x81_2).f2) = true then (if ((rd_T45 l0_9 x81_2).f1).toList = ([] : List UInt8) then (some false) else (spec_inXMLs.l1 kj58 y487 l0_9 (l0_9.length : Int) (wrap64 (x81_2 + 1)))) else (spec_inXMLs.l1 kj58 y487 l0_9 (l0_9.length : Int) (wrap64 (x81_2 + 1)))) else (some false)) = some r := H
                have A78 := Aside0.mk A780
                clear A780
                by_cases c79 : t493 = true
                ·subst c79
                 have H1 : (if ((rd_T45 l0_9 x81_2).f2) = true then (if ((rd_T45 l0_9 x81_2).f1).toList = ([] : List UInt8) then (some false) else (spec_inXMLs.l1 kj58 y487 l0_9 (l0_9.length : Int) (wrap64 (x81_2 + 1)))) else (spec_inXMLs.l1 kj58 y487 l0_9 (l0_9.length : Int) (wrap64 (x81_2 + 1)))) = some r := by rw [if_pos rfl] at H; exact H
                 clear H
                 have H := H1
                 clear H1
                 by_cases c80 : ((rd_T45 l0_9 x81_2).f2) = true
                 ·rw [if_pos c80] at H
                  have c80b0 : ((rd_T45 l0_9 x81_2).f2) = true := c80
                  clear c80
                  by_cases c81 : ((rd_T45 l0_9 x81_2).f1).toList = ([] : List UInt8)
                  ·rw [if_pos c81] at H
                   have c81b0 : (((rd_T45 l0_9 x81_2).f1).toList == ([] : List UInt8)) = true := beq_iff_eq.mpr c81
                   have c81b1 : (((rd_T45 l0_9 x81_2).f1).toList != ([] : List UInt8)) = false := bne_eq_false_iff_eq.mpr c81
                   clear c81
                   obtain rfl := Option.some.inj H
                   go_wp2_with (first | ((with_reducible refine gate_builtin (b := .append) (xs := #[.tmp 92, .tmp 94]) rfl ?_); at_builtin; refine Kd.R_append Kd.string (w0 := w) w.heap.size rfl (.tmp 92) (.tmp 94) 23 9 (.string ⟨#[]⟩) 16 rfl Tryz.underlying23 info9 rfl (by decide) (by omega) u7 x7_2 x10_58 [.string x10_58] (fun _ => True) (fun _ => False) rfl rfl ?aP (fun _ hk => hk.elim) ?aF ?aO ?aB ?aS ?aL ?_; (case aP => exact rfl); (case aB => exact (by repeat ((with_reducible exact HB.out)))); (case aF => exact (fun _ _ => trivial)); (case aO => exact (by (with_reducible repeat (first | apply Kd.R_alloc | apply Kd.R_drewN | apply Kd.R_drew)); exact HO_7.out)); (case aS => exact (below_size (by repeat ((with_reducible exact HB.out))))); (case aL => have := LMc68.out; omega); intro v488 w82 ho hb hg hat; rw [← Ny487.out] at ho; have n0_ := Aside0.mk (blk_grown (g := gb472) (o := .cells #[.int .i64 a0_0, .string a0_1, .int .i64 a0_2, .slice A0_3 l0_3.length c0_3, .slice A0_4 l0_4.length c0_4, .slice A0_5 l0_5.length c0_5, .string a0_6, .string a0_7, .string a0_8, .slice (some ad485) l0_9.length c0_9] 28 (0, 0)) (by (with_reducible repeat (fail)); exact BK472.out) hg (Kd.R_ne HO_7.out BK472.out (by decide))); have n1_ := Aside0.mk (blk_grown (g := gb486) (o := .cells #[.string ((rd_T45 l0_9 x81_2).f0), .string ((rd_T45 l0_9 x81_2).f1), .bool ((rd_T45 l0_9 x81_2).f2)] 45 (0, 0)) (by (with_reducible repeat (fail)); exact BK486.out) hg (Kd.R_ne HO_7.out BK486.out (by decide))); have n2_ := Aside0.mk (hb); have n3_ := Aside0.mk (ho); clear BK472; clear BK486; clear HB; clear HO_7; have BK472 := n0_; have BK486 := n1_; have HB := n2_; have HO489 := n3_; clear n0_ n1_ n2_ n3_; clear ho hb hg hat; have hnb83 := NB486_472.out; have hnc83 := NB472_486.out; have hcz84_0 : w82.cell? ⟨gb486, 0, none⟩ = some (.string ((rd_T45 l0_9 x81_2).f0)) := (blk_cell BK486.out 0).trans rfl; have hcz84_1 : w82.cell? ⟨gb486, 1, none⟩ = some (.string ((rd_T45 l0_9 x81_2).f1)) := (blk_cell BK486.out 1).trans rfl; have hcz84_2 : w82.cell? ⟨gb486, 2, none⟩ = some (.bool ((rd_T45 l0_9 x81_2).f2)) := (blk_cell BK486.out 2).trans rfl; have hfz84_0 := blk_frozen BK486.out 0; have hfz84_1 := blk_frozen BK486.out 1; have hfz84_2 := blk_frozen BK486.out 2) | ((with_reducible refine gate_callee (f := 24) rfl ?_); refine goesL_ (some 98) rfl rfl Tryz.func24 (by kernel_rfl) rfl #[.string ((rd_T45 l0_9 x81_2).f0)] rfl (by (try simp only [List.map_toArray, List.map_cons, List.map_nil]); rfl) ?_; (with_reducible refine (spec_isWord.calls kj58 ((rd_T45 l0_9 x81_2).f0) true _ A69.out).mono ?_); rintro e w' ⟨rfl, ⟨nd, rfl⟩⟩; refine ⟨_, rfl, ?_⟩) | (go_at_call 59; (with_reducible refine (spec_small.calls ((rd_T45 l0_9 x81_2).f0) t491 _ A71.out).mono ?_); rintro e w85 ⟨rfl, hb⟩; have n0_ := Aside0.mk (Kd.R_below (by (with_reducible repeat (first | apply Kd.R_alloc | apply Kd.R_drewN | apply Kd.R_drew)); exact HO489.out) hb); have n1_ := Aside0.mk (blk_below (g := gb472) (o := .cells #[.int .i64 a0_0, .string a0_1, .int .i64 a0_2, .slice A0_3 l0_3.length c0_3, .slice A0_4 l0_4.length c0_4, .slice A0_5 l0_5.length c0_5, .string a0_6, .string a0_7, .string a0_8, .slice (some ad485) l0_9.length c0_9] 28 (0, 0)) (by (with_reducible repeat (refine blk_drewN ?_ _)); exact BK472.out) hb); have n2_ := Aside0.mk (blk_below (g := gb486) (o := .cells #[.string ((rd_T45 l0_9 x81_2).f0), .string ((rd_T45 l0_9 x81_2).f1), .bool ((rd_T45 l0_9 x81_2).f2)] 45 (0, 0)) (by (with_reducible repeat (refine blk_drewN ?_ _)); exact BK486.out) hb); have n3_ := Aside0.mk (below_step (by repeat ((with_reducible first | exact HB.out | apply pw_below_drewN ))) hb); clear HO489; clear BK472; clear BK486; clear HB; have HO489 := n0_; have BK472 := n1_; have BK486 := n2_; have HB := n3_; clear n0_ n1_ n2_ n3_; (try clear hb); (try clear hb2); (try clear hk); (try clear hi)) | (go_at_call 58; (with_reducible refine (spec_Begins.calls t491 (⟨#[120, 109, 108]⟩ : ByteArray) false _ A72.out).mono ?_); rintro e w' ⟨rfl, ⟨nd, rfl⟩⟩; have hcz86_0 : w85.cell? ⟨gb486, 0, none⟩ = some (.string ((rd_T45 l0_9 x81_2).f0)) := (blk_cell BK486.out 0).trans rfl; have hcz86_1 : w85.cell? ⟨gb486, 1, none⟩ = some (.string ((rd_T45 l0_9 x81_2).f1)) := (blk_cell BK486.out 1).trans rfl; have hcz86_2 : w85.cell? ⟨gb486, 2, none⟩ = some (.bool ((rd_T45 l0_9 x81_2).f2)) := (blk_cell BK486.out 2).trans rfl; have hfz86_0 := blk_frozen BK486.out 0; have hfz86_1 := blk_frozen BK486.out 1; have hfz86_2 := blk_frozen BK486.out 2) | (go_at_call 41; (with_reducible refine (spec_areChars.calls ((rd_T45 l0_9 x81_2).f1) true _ A78.out).mono ?_); rintro e w87 ⟨rfl, hb⟩; have n0_ := Aside0.mk (Kd.R_below (by (with_reducible repeat (first | apply Kd.R_alloc | apply Kd.R_drewN | apply Kd.R_drew)); exact HO489.out) hb); have n1_ := Aside0.mk (blk_below (g := gb472) (o := .cells #[.int .i64 a0_0, .string a0_1, .int .i64 a0_2, .slice A0_3 l0_3.length c0_3, .slice A0_4 l0_4.length c0_4, .slice A0_5 l0_5.length c0_5, .string a0_6, .string a0_7, .string a0_8, .slice (some ad485) l0_9.length c0_9] 28 (0, 0)) (by (with_reducible repeat (refine blk_drewN ?_ _)); exact BK472.out) hb); have n2_ := Aside0.mk (blk_below (g := gb486) (o := .cells #[.string ((rd_T45 l0_9 x81_2).f0), .string ((rd_T45 l0_9 x81_2).f1), .bool ((rd_T45 l0_9 x81_2).f2)] 45 (0, 0)) (by (with_reducible repeat (refine blk_drewN ?_ _)); exact BK486.out) hb); have n3_ := Aside0.mk (below_step (by repeat ((with_reducible first | exact HB.out | apply pw_below_drewN ))) hb); clear HO489; clear BK472; clear BK486; clear HB; have HO489 := n0_; have BK472 := n1_; have BK486 := n2_; have HB := n3_; clear n0_ n1_ n2_ n3_; (try clear hb); (try clear hb2); (try clear hk); (try clear hi); have hcz88_0 : w87.cell? ⟨gb486, 0, none⟩ = some (.string ((rd_T45 l0_9 x81_2).f0)) := (blk_cell BK486.out 0).trans rfl; have hcz88_1 : w87.cell? ⟨gb486, 1, none⟩ = some (.string ((rd_T45 l0_9 x81_2).f1)) := (blk_cell BK486.out 1).trans rfl; have hcz88_2 : w87.cell? ⟨gb486, 2, none⟩ = some (.bool ((rd_T45 l0_9 x81_2).f2)) := (blk_cell BK486.out 2).trans rfl; have hfz88_0 := blk_frozen BK486.out 0; have hfz88_1 := blk_frozen BK486.out 1; have hfz88_2 := blk_frozen BK486.out 2))
                   go_ret
                   exact ⟨by rfl, by repeat ((with_reducible exact HB.out))⟩
                  ·rw [if_neg c81] at H
                   have c81b0 : (((rd_T45 l0_9 x81_2).f1).toList == ([] : List UInt8)) = false := beq_eq_false_iff_ne.mpr c81
                   have c81b1 : (((rd_T45 l0_9 x81_2).f1).toList != ([] : List UInt8)) = true := bne_iff_ne.mpr c81
                   have H' := Aside0.mk H
                   clear H
                   go_wp2_with (first | ((with_reducible refine gate_builtin (b := .append) (xs := #[.tmp 92, .tmp 94]) rfl ?_); at_builtin; refine Kd.R_append Kd.string (w0 := w) w.heap.size rfl (.tmp 92) (.tmp 94) 23 9 (.string ⟨#[]⟩) 16 rfl Tryz.underlying23 info9 rfl (by decide) (by omega) u7 x7_2 x10_58 [.string x10_58] (fun _ => True) (fun _ => False) rfl rfl ?aP (fun _ hk => hk.elim) ?aF ?aO ?aB ?aS ?aL ?_; (case aP => exact rfl); (case aB => exact (by repeat ((with_reducible exact HB.out)))); (case aF => exact (fun _ _ => trivial)); (case aO => exact (by (with_reducible repeat (first | apply Kd.R_alloc | apply Kd.R_drewN | apply Kd.R_drew)); exact HO_7.out)); (case aS => exact (below_size (by repeat ((with_reducible exact HB.out))))); (case aL => have := LMc68.out; omega); intro v488 w89 ho hb hg hat; rw [← Ny487.out] at ho; have n0_ := Aside0.mk (blk_grown (g := gb472) (o := .cells #[.int .i64 a0_0, .string a0_1, .int .i64 a0_2, .slice A0_3 l0_3.length c0_3, .slice A0_4 l0_4.length c0_4, .slice A0_5 l0_5.length c0_5, .string a0_6, .string a0_7, .string a0_8, .slice (some ad485) l0_9.length c0_9] 28 (0, 0)) (by (with_reducible repeat (fail)); exact BK472.out) hg (Kd.R_ne HO_7.out BK472.out (by decide))); have n1_ := Aside0.mk (blk_grown (g := gb486) (o := .cells #[.string ((rd_T45 l0_9 x81_2).f0), .string ((rd_T45 l0_9 x81_2).f1), .bool ((rd_T45 l0_9 x81_2).f2)] 45 (0, 0)) (by (with_reducible repeat (fail)); exact BK486.out) hg (Kd.R_ne HO_7.out BK486.out (by decide))); have n2_ := Aside0.mk (hb); have n3_ := Aside0.mk (ho); clear BK472; clear BK486; clear HB; clear HO_7; have BK472 := n0_; have BK486 := n1_; have HB := n2_; have HO489 := n3_; clear n0_ n1_ n2_ n3_; clear ho hb hg hat; have hnb90 := NB486_472.out; have hnc90 := NB472_486.out; have hcz91_0 : w89.cell? ⟨gb486, 0, none⟩ = some (.string ((rd_T45 l0_9 x81_2).f0)) := (blk_cell BK486.out 0).trans rfl; have hcz91_1 : w89.cell? ⟨gb486, 1, none⟩ = some (.string ((rd_T45 l0_9 x81_2).f1)) := (blk_cell BK486.out 1).trans rfl; have hcz91_2 : w89.cell? ⟨gb486, 2, none⟩ = some (.bool ((rd_T45 l0_9 x81_2).f2)) := (blk_cell BK486.out 2).trans rfl; have hfz91_0 := blk_frozen BK486.out 0; have hfz91_1 := blk_frozen BK486.out 1; have hfz91_2 := blk_frozen BK486.out 2) | ((with_reducible refine gate_callee (f := 24) rfl ?_); refine goesL_ (some 98) rfl rfl Tryz.func24 (by kernel_rfl) rfl #[.string ((rd_T45 l0_9 x81_2).f0)] rfl (by (try simp only [List.map_toArray, List.map_cons, List.map_nil]); rfl) ?_; (with_reducible refine (spec_isWord.calls kj58 ((rd_T45 l0_9 x81_2).f0) true _ A69.out).mono ?_); rintro e w' ⟨rfl, ⟨nd, rfl⟩⟩; refine ⟨_, rfl, ?_⟩) | (go_at_call 59; (with_reducible refine (spec_small.calls ((rd_T45 l0_9 x81_2).f0) t491 _ A71.out).mono ?_); rintro e w92 ⟨rfl, hb⟩; have n0_ := Aside0.mk (Kd.R_below (by (with_reducible repeat (first | apply Kd.R_alloc | apply Kd.R_drewN | apply Kd.R_drew)); exact HO489.out) hb); have n1_ := Aside0.mk (blk_below (g := gb472) (o := .cells #[.int .i64 a0_0, .string a0_1, .int .i64 a0_2, .slice A0_3 l0_3.length c0_3, .slice A0_4 l0_4.length c0_4, .slice A0_5 l0_5.length c0_5, .string a0_6, .string a0_7, .string a0_8, .slice (some ad485) l0_9.length c0_9] 28 (0, 0)) (by (with_reducible repeat (refine blk_drewN ?_ _)); exact BK472.out) hb); have n2_ := Aside0.mk (blk_below (g := gb486) (o := .cells #[.string ((rd_T45 l0_9 x81_2).f0), .string ((rd_T45 l0_9 x81_2).f1), .bool ((rd_T45 l0_9 x81_2).f2)] 45 (0, 0)) (by (with_reducible repeat (refine blk_drewN ?_ _)); exact BK486.out) hb); have n3_ := Aside0.mk (below_step (by repeat ((with_reducible first | exact HB.out | apply pw_below_drewN ))) hb); clear HO489; clear BK472; clear BK486; clear HB; have HO489 := n0_; have BK472 := n1_; have BK486 := n2_; have HB := n3_; clear n0_ n1_ n2_ n3_; (try clear hb); (try clear hb2); (try clear hk); (try clear hi)) | (go_at_call 58; (with_reducible refine (spec_Begins.calls t491 (⟨#[120, 109, 108]⟩ : ByteArray) false _ A72.out).mono ?_); rintro e w' ⟨rfl, ⟨nd, rfl⟩⟩; have hcz93_0 : w92.cell? ⟨gb486, 0, none⟩ = some (.string ((rd_T45 l0_9 x81_2).f0)) := (blk_cell BK486.out 0).trans rfl; have hcz93_1 : w92.cell? ⟨gb486, 1, none⟩ = some (.string ((rd_T45 l0_9 x81_2).f1)) := (blk_cell BK486.out 1).trans rfl; have hcz93_2 : w92.cell? ⟨gb486, 2, none⟩ = some (.bool ((rd_T45 l0_9 x81_2).f2)) := (blk_cell BK486.out 2).trans rfl; have hfz93_0 := blk_frozen BK486.out 0; have hfz93_1 := blk_frozen BK486.out 1; have hfz93_2 := blk_frozen BK486.out 2) | (go_at_call 41; (with_reducible refine (spec_areChars.calls ((rd_T45 l0_9 x81_2).f1) true _ A78.out).mono ?_); rintro e w94 ⟨rfl, hb⟩; have n0_ := Aside0.mk (Kd.R_below (by (with_reducible repeat (first | apply Kd.R_alloc | apply Kd.R_drewN | apply Kd.R_drew)); exact HO489.out) hb); have n1_ := Aside0.mk (blk_below (g := gb472) (o := .cells #[.int .i64 a0_0, .string a0_1, .int .i64 a0_2, .slice A0_3 l0_3.length c0_3, .slice A0_4 l0_4.length c0_4, .slice A0_5 l0_5.length c0_5, .string a0_6, .string a0_7, .string a0_8, .slice (some ad485) l0_9.length c0_9] 28 (0, 0)) (by (with_reducible repeat (refine blk_drewN ?_ _)); exact BK472.out) hb); have n2_ := Aside0.mk (blk_below (g := gb486) (o := .cells #[.string ((rd_T45 l0_9 x81_2).f0), .string ((rd_T45 l0_9 x81_2).f1), .bool ((rd_T45 l0_9 x81_2).f2)] 45 (0, 0)) (by (with_reducible repeat (refine blk_drewN ?_ _)); exact BK486.out) hb); have n3_ := Aside0.mk (below_step (by repeat ((with_reducible first | exact HB.out | apply pw_below_drewN ))) hb); clear HO489; clear BK472; clear BK486; clear HB; have HO489 := n0_; have BK472 := n1_; have BK486 := n2_; have HB := n3_; clear n0_ n1_ n2_ n3_; (try clear hb); (try clear hb2); (try clear hk); (try clear hi); have hcz95_0 : w94.cell? ⟨gb486, 0, none⟩ = some (.string ((rd_T45 l0_9 x81_2).f0)) := (blk_cell BK486.out 0).trans rfl; have hcz95_1 : w94.cell? ⟨gb486, 1, none⟩ = some (.string ((rd_T45 l0_9 x81_2).f1)) := (blk_cell BK486.out 1).trans rfl; have hcz95_2 : w94.cell? ⟨gb486, 2, none⟩ = some (.bool ((rd_T45 l0_9 x81_2).f2)) := (blk_cell BK486.out 2).trans rfl; have hfz95_0 := blk_frozen BK486.out 0; have hfz95_1 := blk_frozen BK486.out 1; have hfz95_2 := blk_frozen BK486.out 2))
                   go_roundg kj58
                   case measure => have := HJ2.out; have := HK2.out; have := HJ58.out; omega
                   case rel => exact ⟨(y487), (wrap64 (x81_2 + 1)), (by first | rfl | (simp; done) | (simp [*]; done)), H', ⟨by have := HJ2.out; have := HK2.out; have := HJ58.out; omega⟩, ⟨by (with_reducible repeat (first | apply Kd.R_alloc | apply Kd.R_drewN | apply Kd.R_drew)); exact HO489.out⟩, ⟨by (with_reducible repeat (fail)); exact BK472.out⟩, ⟨by repeat ((with_reducible exact HB.out))⟩⟩
                 ·rw [if_neg c80] at H
                  have c80b0 : ((rd_T45 l0_9 x81_2).f2) = false := by simpa using c80
                  clear c80
                  have H' := Aside0.mk H
                  clear H
                  go_wp2_with (first | ((with_reducible refine gate_builtin (b := .append) (xs := #[.tmp 92, .tmp 94]) rfl ?_); at_builtin; refine Kd.R_append Kd.string (w0 := w) w.heap.size rfl (.tmp 92) (.tmp 94) 23 9 (.string ⟨#[]⟩) 16 rfl Tryz.underlying23 info9 rfl (by decide) (by omega) u7 x7_2 x10_58 [.string x10_58] (fun _ => True) (fun _ => False) rfl rfl ?aP (fun _ hk => hk.elim) ?aF ?aO ?aB ?aS ?aL ?_; (case aP => exact rfl); (case aB => exact (by repeat ((with_reducible exact HB.out)))); (case aF => exact (fun _ _ => trivial)); (case aO => exact (by (with_reducible repeat (first | apply Kd.R_alloc | apply Kd.R_drewN | apply Kd.R_drew)); exact HO_7.out)); (case aS => exact (below_size (by repeat ((with_reducible exact HB.out))))); (case aL => have := LMc68.out; omega); intro v488 w96 ho hb hg hat; rw [← Ny487.out] at ho; have n0_ := Aside0.mk (blk_grown (g := gb472) (o := .cells #[.int .i64 a0_0, .string a0_1, .int .i64 a0_2, .slice A0_3 l0_3.length c0_3, .slice A0_4 l0_4.length c0_4, .slice A0_5 l0_5.length c0_5, .string a0_6, .string a0_7, .string a0_8, .slice (some ad485) l0_9.length c0_9] 28 (0, 0)) (by (with_reducible repeat (fail)); exact BK472.out) hg (Kd.R_ne HO_7.out BK472.out (by decide))); have n1_ := Aside0.mk (blk_grown (g := gb486) (o := .cells #[.string ((rd_T45 l0_9 x81_2).f0), .string ((rd_T45 l0_9 x81_2).f1), .bool ((rd_T45 l0_9 x81_2).f2)] 45 (0, 0)) (by (with_reducible repeat (fail)); exact BK486.out) hg (Kd.R_ne HO_7.out BK486.out (by decide))); have n2_ := Aside0.mk (hb); have n3_ := Aside0.mk (ho); clear BK472; clear BK486; clear HB; clear HO_7; have BK472 := n0_; have BK486 := n1_; have HB := n2_; have HO489 := n3_; clear n0_ n1_ n2_ n3_; clear ho hb hg hat; have hnb97 := NB486_472.out; have hnc97 := NB472_486.out; have hcz98_0 : w96.cell? ⟨gb486, 0, none⟩ = some (.string ((rd_T45 l0_9 x81_2).f0)) := (blk_cell BK486.out 0).trans rfl; have hcz98_1 : w96.cell? ⟨gb486, 1, none⟩ = some (.string ((rd_T45 l0_9 x81_2).f1)) := (blk_cell BK486.out 1).trans rfl; have hcz98_2 : w96.cell? ⟨gb486, 2, none⟩ = some (.bool ((rd_T45 l0_9 x81_2).f2)) := (blk_cell BK486.out 2).trans rfl; have hfz98_0 := blk_frozen BK486.out 0; have hfz98_1 := blk_frozen BK486.out 1; have hfz98_2 := blk_frozen BK486.out 2) | ((with_reducible refine gate_callee (f := 24) rfl ?_); refine goesL_ (some 98) rfl rfl Tryz.func24 (by kernel_rfl) rfl #[.string ((rd_T45 l0_9 x81_2).f0)] rfl (by (try simp only [List.map_toArray, List.map_cons, List.map_nil]); rfl) ?_; (with_reducible refine (spec_isWord.calls kj58 ((rd_T45 l0_9 x81_2).f0) true _ A69.out).mono ?_); rintro e w' ⟨rfl, ⟨nd, rfl⟩⟩; refine ⟨_, rfl, ?_⟩) | (go_at_call 59; (with_reducible refine (spec_small.calls ((rd_T45 l0_9 x81_2).f0) t491 _ A71.out).mono ?_); rintro e w99 ⟨rfl, hb⟩; have n0_ := Aside0.mk (Kd.R_below (by (with_reducible repeat (first | apply Kd.R_alloc | apply Kd.R_drewN | apply Kd.R_drew)); exact HO489.out) hb); have n1_ := Aside0.mk (blk_below (g := gb472) (o := .cells #[.int .i64 a0_0, .string a0_1, .int .i64 a0_2, .slice A0_3 l0_3.length c0_3, .slice A0_4 l0_4.length c0_4, .slice A0_5 l0_5.length c0_5, .string a0_6, .string a0_7, .string a0_8, .slice (some ad485) l0_9.length c0_9] 28 (0, 0)) (by (with_reducible repeat (refine blk_drewN ?_ _)); exact BK472.out) hb); have n2_ := Aside0.mk (blk_below (g := gb486) (o := .cells #[.string ((rd_T45 l0_9 x81_2).f0), .string ((rd_T45 l0_9 x81_2).f1), .bool ((rd_T45 l0_9 x81_2).f2)] 45 (0, 0)) (by (with_reducible repeat (refine blk_drewN ?_ _)); exact BK486.out) hb); have n3_ := Aside0.mk (below_step (by repeat ((with_reducible first | exact HB.out | apply pw_below_drewN ))) hb); clear HO489; clear BK472; clear BK486; clear HB; have HO489 := n0_; have BK472 := n1_; have BK486 := n2_; have HB := n3_; clear n0_ n1_ n2_ n3_; (try clear hb); (try clear hb2); (try clear hk); (try clear hi)) | (go_at_call 58; (with_reducible refine (spec_Begins.calls t491 (⟨#[120, 109, 108]⟩ : ByteArray) false _ A72.out).mono ?_); rintro e w' ⟨rfl, ⟨nd, rfl⟩⟩; have hcz100_0 : w99.cell? ⟨gb486, 0, none⟩ = some (.string ((rd_T45 l0_9 x81_2).f0)) := (blk_cell BK486.out 0).trans rfl; have hcz100_1 : w99.cell? ⟨gb486, 1, none⟩ = some (.string ((rd_T45 l0_9 x81_2).f1)) := (blk_cell BK486.out 1).trans rfl; have hcz100_2 : w99.cell? ⟨gb486, 2, none⟩ = some (.bool ((rd_T45 l0_9 x81_2).f2)) := (blk_cell BK486.out 2).trans rfl; have hfz100_0 := blk_frozen BK486.out 0; have hfz100_1 := blk_frozen BK486.out 1; have hfz100_2 := blk_frozen BK486.out 2) | (go_at_call 41; (with_reducible refine (spec_areChars.calls ((rd_T45 l0_9 x81_2).f1) true _ A78.out).mono ?_); rintro e w101 ⟨rfl, hb⟩; have n0_ := Aside0.mk (Kd.R_below (by (with_reducible repeat (first | apply Kd.R_alloc | apply Kd.R_drewN | apply Kd.R_drew)); exact HO489.out) hb); have n1_ := Aside0.mk (blk_below (g := gb472) (o := .cells #[.int .i64 a0_0, .string a0_1, .int .i64 a0_2, .slice A0_3 l0_3.length c0_3, .slice A0_4 l0_4.length c0_4, .slice A0_5 l0_5.length c0_5, .string a0_6, .string a0_7, .string a0_8, .slice (some ad485) l0_9.length c0_9] 28 (0, 0)) (by (with_reducible repeat (refine blk_drewN ?_ _)); exact BK472.out) hb); have n2_ := Aside0.mk (blk_below (g := gb486) (o := .cells #[.string ((rd_T45 l0_9 x81_2).f0), .string ((rd_T45 l0_9 x81_2).f1), .bool ((rd_T45 l0_9 x81_2).f2)] 45 (0, 0)) (by (with_reducible repeat (refine blk_drewN ?_ _)); exact BK486.out) hb); have n3_ := Aside0.mk (below_step (by repeat ((with_reducible first | exact HB.out | apply pw_below_drewN ))) hb); clear HO489; clear BK472; clear BK486; clear HB; have HO489 := n0_; have BK472 := n1_; have BK486 := n2_; have HB := n3_; clear n0_ n1_ n2_ n3_; (try clear hb); (try clear hb2); (try clear hk); (try clear hi); have hcz102_0 : w101.cell? ⟨gb486, 0, none⟩ = some (.string ((rd_T45 l0_9 x81_2).f0)) := (blk_cell BK486.out 0).trans rfl; have hcz102_1 : w101.cell? ⟨gb486, 1, none⟩ = some (.string ((rd_T45 l0_9 x81_2).f1)) := (blk_cell BK486.out 1).trans rfl; have hcz102_2 : w101.cell? ⟨gb486, 2, none⟩ = some (.bool ((rd_T45 l0_9 x81_2).f2)) := (blk_cell BK486.out 2).trans rfl; have hfz102_0 := blk_frozen BK486.out 0; have hfz102_1 := blk_frozen BK486.out 1; have hfz102_2 := blk_frozen BK486.out 2))
                  go_roundg kj58
                  case measure => have := HJ2.out; have := HK2.out; have := HJ58.out; omega
                  case rel => exact ⟨(y487), (wrap64 (x81_2 + 1)), (by first | rfl | (simp; done) | (simp [*]; done)), H', ⟨by have := HJ2.out; have := HK2.out; have := HJ58.out; omega⟩, ⟨by (with_reducible repeat (first | apply Kd.R_alloc | apply Kd.R_drewN | apply Kd.R_drew)); exact HO489.out⟩, ⟨by (with_reducible repeat (fail)); exact BK472.out⟩, ⟨by repeat ((with_reducible exact HB.out))⟩⟩
                ·replace c79 := Bool.eq_false_iff.mpr c79
                 subst c79
                 have H1 : (some false) = some r := by rw [if_neg (show ¬ (false = true) by decide)] at H; exact H
                 clear H
                 have H := H1
                 clear H1
                 obtain rfl := Option.some.inj H
                 go_wp2_with (first | ((with_reducible refine gate_builtin (b := .append) (xs := #[.tmp 92, .tmp 94]) rfl ?_); at_builtin; refine Kd.R_append Kd.string (w0 := w) w.heap.size rfl (.tmp 92) (.tmp 94) 23 9 (.string ⟨#[]⟩) 16 rfl Tryz.underlying23 info9 rfl (by decide) (by omega) u7 x7_2 x10_58 [.string x10_58] (fun _ => True) (fun _ => False) rfl rfl ?aP (fun _ hk => hk.elim) ?aF ?aO ?aB ?aS ?aL ?_; (case aP => exact rfl); (case aB => exact (by repeat ((with_reducible exact HB.out)))); (case aF => exact (fun _ _ => trivial)); (case aO => exact (by (with_reducible repeat (first | apply Kd.R_alloc | apply Kd.R_drewN | apply Kd.R_drew)); exact HO_7.out)); (case aS => exact (below_size (by repeat ((with_reducible exact HB.out))))); (case aL => have := LMc68.out; omega); intro v488 w103 ho hb hg hat; rw [← Ny487.out] at ho; have n0_ := Aside0.mk (blk_grown (g := gb472) (o := .cells #[.int .i64 a0_0, .string a0_1, .int .i64 a0_2, .slice A0_3 l0_3.length c0_3, .slice A0_4 l0_4.length c0_4, .slice A0_5 l0_5.length c0_5, .string a0_6, .string a0_7, .string a0_8, .slice (some ad485) l0_9.length c0_9] 28 (0, 0)) (by (with_reducible repeat (fail)); exact BK472.out) hg (Kd.R_ne HO_7.out BK472.out (by decide))); have n1_ := Aside0.mk (blk_grown (g := gb486) (o := .cells #[.string ((rd_T45 l0_9 x81_2).f0), .string ((rd_T45 l0_9 x81_2).f1), .bool ((rd_T45 l0_9 x81_2).f2)] 45 (0, 0)) (by (with_reducible repeat (fail)); exact BK486.out) hg (Kd.R_ne HO_7.out BK486.out (by decide))); have n2_ := Aside0.mk (hb); have n3_ := Aside0.mk (ho); clear BK472; clear BK486; clear HB; clear HO_7; have BK472 := n0_; have BK486 := n1_; have HB := n2_; have HO489 := n3_; clear n0_ n1_ n2_ n3_; clear ho hb hg hat; have hnb104 := NB486_472.out; have hnc104 := NB472_486.out; have hcz105_0 : w103.cell? ⟨gb486, 0, none⟩ = some (.string ((rd_T45 l0_9 x81_2).f0)) := (blk_cell BK486.out 0).trans rfl; have hcz105_1 : w103.cell? ⟨gb486, 1, none⟩ = some (.string ((rd_T45 l0_9 x81_2).f1)) := (blk_cell BK486.out 1).trans rfl; have hcz105_2 : w103.cell? ⟨gb486, 2, none⟩ = some (.bool ((rd_T45 l0_9 x81_2).f2)) := (blk_cell BK486.out 2).trans rfl; have hfz105_0 := blk_frozen BK486.out 0; have hfz105_1 := blk_frozen BK486.out 1; have hfz105_2 := blk_frozen BK486.out 2) | ((with_reducible refine gate_callee (f := 24) rfl ?_); refine goesL_ (some 98) rfl rfl Tryz.func24 (by kernel_rfl) rfl #[.string ((rd_T45 l0_9 x81_2).f0)] rfl (by (try simp only [List.map_toArray, List.map_cons, List.map_nil]); rfl) ?_; (with_reducible refine (spec_isWord.calls kj58 ((rd_T45 l0_9 x81_2).f0) true _ A69.out).mono ?_); rintro e w' ⟨rfl, ⟨nd, rfl⟩⟩; refine ⟨_, rfl, ?_⟩) | (go_at_call 59; (with_reducible refine (spec_small.calls ((rd_T45 l0_9 x81_2).f0) t491 _ A71.out).mono ?_); rintro e w106 ⟨rfl, hb⟩; have n0_ := Aside0.mk (Kd.R_below (by (with_reducible repeat (first | apply Kd.R_alloc | apply Kd.R_drewN | apply Kd.R_drew)); exact HO489.out) hb); have n1_ := Aside0.mk (blk_below (g := gb472) (o := .cells #[.int .i64 a0_0, .string a0_1, .int .i64 a0_2, .slice A0_3 l0_3.length c0_3, .slice A0_4 l0_4.length c0_4, .slice A0_5 l0_5.length c0_5, .string a0_6, .string a0_7, .string a0_8, .slice (some ad485) l0_9.length c0_9] 28 (0, 0)) (by (with_reducible repeat (refine blk_drewN ?_ _)); exact BK472.out) hb); have n2_ := Aside0.mk (blk_below (g := gb486) (o := .cells #[.string ((rd_T45 l0_9 x81_2).f0), .string ((rd_T45 l0_9 x81_2).f1), .bool ((rd_T45 l0_9 x81_2).f2)] 45 (0, 0)) (by (with_reducible repeat (refine blk_drewN ?_ _)); exact BK486.out) hb); have n3_ := Aside0.mk (below_step (by repeat ((with_reducible first | exact HB.out | apply pw_below_drewN ))) hb); clear HO489; clear BK472; clear BK486; clear HB; have HO489 := n0_; have BK472 := n1_; have BK486 := n2_; have HB := n3_; clear n0_ n1_ n2_ n3_; (try clear hb); (try clear hb2); (try clear hk); (try clear hi)) | (go_at_call 58; (with_reducible refine (spec_Begins.calls t491 (⟨#[120, 109, 108]⟩ : ByteArray) false _ A72.out).mono ?_); rintro e w' ⟨rfl, ⟨nd, rfl⟩⟩; have hcz107_0 : w106.cell? ⟨gb486, 0, none⟩ = some (.string ((rd_T45 l0_9 x81_2).f0)) := (blk_cell BK486.out 0).trans rfl; have hcz107_1 : w106.cell? ⟨gb486, 1, none⟩ = some (.string ((rd_T45 l0_9 x81_2).f1)) := (blk_cell BK486.out 1).trans rfl; have hcz107_2 : w106.cell? ⟨gb486, 2, none⟩ = some (.bool ((rd_T45 l0_9 x81_2).f2)) := (blk_cell BK486.out 2).trans rfl; have hfz107_0 := blk_frozen BK486.out 0; have hfz107_1 := blk_frozen BK486.out 1; have hfz107_2 := blk_frozen BK486.out 2) | (go_at_call 41; (with_reducible refine (spec_areChars.calls ((rd_T45 l0_9 x81_2).f1) false _ A78.out).mono ?_); rintro e w108 ⟨rfl, hb⟩; have n0_ := Aside0.mk (Kd.R_below (by (with_reducible repeat (first | apply Kd.R_alloc | apply Kd.R_drewN | apply Kd.R_drew)); exact HO489.out) hb); have n1_ := Aside0.mk (blk_below (g := gb472) (o := .cells #[.int .i64 a0_0, .string a0_1, .int .i64 a0_2, .slice A0_3 l0_3.length c0_3, .slice A0_4 l0_4.length c0_4, .slice A0_5 l0_5.length c0_5, .string a0_6, .string a0_7, .string a0_8, .slice (some ad485) l0_9.length c0_9] 28 (0, 0)) (by (with_reducible repeat (refine blk_drewN ?_ _)); exact BK472.out) hb); have n2_ := Aside0.mk (blk_below (g := gb486) (o := .cells #[.string ((rd_T45 l0_9 x81_2).f0), .string ((rd_T45 l0_9 x81_2).f1), .bool ((rd_T45 l0_9 x81_2).f2)] 45 (0, 0)) (by (with_reducible repeat (refine blk_drewN ?_ _)); exact BK486.out) hb); have n3_ := Aside0.mk (below_step (by repeat ((with_reducible first | exact HB.out | apply pw_below_drewN ))) hb); clear HO489; clear BK472; clear BK486; clear HB; have HO489 := n0_; have BK472 := n1_; have BK486 := n2_; have HB := n3_; clear n0_ n1_ n2_ n3_; (try clear hb); (try clear hb2); (try clear hk); (try clear hi)))
                 go_ret
                 exact ⟨by rfl, by repeat ((with_reducible exact HB.out))⟩
              ·replace c70 := Bool.eq_false_iff.mpr c70
               subst c70
               have H1 : (some false) = some r := by rw [if_neg (show ¬ (false = true) by decide)] at H; exact H
               clear H
               have H := H1
               clear H1
               obtain rfl := Option.some.inj H
               go_wp2_with (first | ((with_reducible refine gate_builtin (b := .append) (xs := #[.tmp 92, .tmp 94]) rfl ?_); at_builtin; refine Kd.R_append Kd.string (w0 := w) w.heap.size rfl (.tmp 92) (.tmp 94) 23 9 (.string ⟨#[]⟩) 16 rfl Tryz.underlying23 info9 rfl (by decide) (by omega) u7 x7_2 x10_58 [.string x10_58] (fun _ => True) (fun _ => False) rfl rfl ?aP (fun _ hk => hk.elim) ?aF ?aO ?aB ?aS ?aL ?_; (case aP => exact rfl); (case aB => exact (by repeat ((with_reducible exact HB.out)))); (case aF => exact (fun _ _ => trivial)); (case aO => exact (by (with_reducible repeat (first | apply Kd.R_alloc | apply Kd.R_drewN | apply Kd.R_drew)); exact HO_7.out)); (case aS => exact (below_size (by repeat ((with_reducible exact HB.out))))); (case aL => have := LMc68.out; omega); intro v488 w109 ho hb hg hat; rw [← Ny487.out] at ho; have n0_ := Aside0.mk (blk_grown (g := gb472) (o := .cells #[.int .i64 a0_0, .string a0_1, .int .i64 a0_2, .slice A0_3 l0_3.length c0_3, .slice A0_4 l0_4.length c0_4, .slice A0_5 l0_5.length c0_5, .string a0_6, .string a0_7, .string a0_8, .slice (some ad485) l0_9.length c0_9] 28 (0, 0)) (by (with_reducible repeat (fail)); exact BK472.out) hg (Kd.R_ne HO_7.out BK472.out (by decide))); have n1_ := Aside0.mk (blk_grown (g := gb486) (o := .cells #[.string ((rd_T45 l0_9 x81_2).f0), .string ((rd_T45 l0_9 x81_2).f1), .bool ((rd_T45 l0_9 x81_2).f2)] 45 (0, 0)) (by (with_reducible repeat (fail)); exact BK486.out) hg (Kd.R_ne HO_7.out BK486.out (by decide))); have n2_ := Aside0.mk (hb); have n3_ := Aside0.mk (ho); clear BK472; clear BK486; clear HB; clear HO_7; have BK472 := n0_; have BK486 := n1_; have HB := n2_; have HO489 := n3_; clear n0_ n1_ n2_ n3_; clear ho hb hg hat; have hnb110 := NB486_472.out; have hnc110 := NB472_486.out; have hcz111_0 : w109.cell? ⟨gb486, 0, none⟩ = some (.string ((rd_T45 l0_9 x81_2).f0)) := (blk_cell BK486.out 0).trans rfl; have hcz111_1 : w109.cell? ⟨gb486, 1, none⟩ = some (.string ((rd_T45 l0_9 x81_2).f1)) := (blk_cell BK486.out 1).trans rfl; have hcz111_2 : w109.cell? ⟨gb486, 2, none⟩ = some (.bool ((rd_T45 l0_9 x81_2).f2)) := (blk_cell BK486.out 2).trans rfl; have hfz111_0 := blk_frozen BK486.out 0; have hfz111_1 := blk_frozen BK486.out 1; have hfz111_2 := blk_frozen BK486.out 2) | ((with_reducible refine gate_callee (f := 24) rfl ?_); refine goesL_ (some 98) rfl rfl Tryz.func24 (by kernel_rfl) rfl #[.string ((rd_T45 l0_9 x81_2).f0)] rfl (by (try simp only [List.map_toArray, List.map_cons, List.map_nil]); rfl) ?_; (with_reducible refine (spec_isWord.calls kj58 ((rd_T45 l0_9 x81_2).f0) false _ A69.out).mono ?_); rintro e w' ⟨rfl, ⟨nd, rfl⟩⟩; refine ⟨_, rfl, ?_⟩))
               go_ret
               exact ⟨by rfl, by repeat ((with_reducible first | exact HB.out | apply pw_below_drewN ))⟩
             ·rw [if_neg c68] at H
              exact absurd H (by simp)
         ·rw [if_neg c58] at H
          exact absurd H (by simp)
        ·rw [if_neg c57] at H
         exact absurd H (by simp)
       ·rw [if_neg c56] at H
        have c56b0 : decide (x81_2 < (l0_9.length : Int)) = false := decide_eq_false c56
        clear c56
        replace H := Option.bind_eq_some_iff.mp H
        obtain ⟨t484, A1120, H⟩ := H
        replace H : (some t484) = some r := H
        have A112 := Aside0.mk A1120
        clear A1120
        obtain rfl := Option.some.inj H
        obtain ⟨Ao113, co113, eo113⟩ := Kd.R_slice HO_7.out
        subst eo113
        go_wp2_with (first | ((with_reducible refine gate_callee (f := 60) rfl ?_); refine goesL_ (some 123) rfl rfl Tryz.func60 (by kernel_rfl) rfl #[.slice Ao113 x7_2.length co113] rfl (by (try simp only [List.map_toArray, List.map_cons, List.map_nil]); rfl) ?_; (with_reducible refine (spec_areUnlike.calls k2 _ _ x7_2 t484 _ ?side1 ?side2 A112.out).mono ?_); (case side1 => repeat (exact (Kd.R_reads' HO_7.out).2.2)); (case side2 => exact (Kd.R_reads' HO_7.out).2.1); rintro e w' ⟨rfl, ⟨nd, rfl⟩⟩; refine ⟨_, rfl, ?_⟩))
        go_ret
        exact ⟨by rfl, by repeat ((with_reducible first | exact HB.out | apply pw_below_drewN ))⟩

end Go.Proofs.YtkihaebaccdjdaaGreatDoor.PX
