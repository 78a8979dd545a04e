import Derived.Test.YtkihaebaccdjdaaGreatDoorX5
import Derived.Test.YtkihaebaccdjdaaGreatDoorX29
import Derived.Test.YtkihaebaccdjdaaGreatDoorX30
import Derived.Test.YtkihaebaccdjdaaGreatDoorX41
import Derived.Test.YtkihaebaccdjdaaGreatDoorX42
import Derived.Test.YtkihaebaccdjdaaGreatDoorX43
import Derived.Test.YtkihaebaccdjdaaGreatDoorX44
namespace Go.Proofs.YtkihaebaccdjdaaGreatDoor.PX
open Go.RowKit Go.Proofs.YtkihaebaccdjdaaGreatDoorW.PrintWords Go.Proofs.YtkihaebaccdjdaaGreatDoorW.PrintLast Go.Proofs.YtkihaebaccdjdaaGreatDoorW.PrintMore
attribute [local go_sem] max2_int min2_int max_two min_two max_three min_three max_four min_four   -- for this text's walks alone
set_option linter.unusedVariables false
set_option linter.unusedSimpArgs false

/-! ### spec_reader_element: function 42 -/
def spec_reader_element.j0 : Nat → Bool → ByteArray → Bool → Option (ByteArray × Bool)
 | 0, _, _, _ => none
 | k + 1, x43, x1000, x1001 => if x43 = true then (some (x1000, x1001)) else (some (x1000, true))
def spec_reader_element.f (k : Nat) (s0_0 : ByteArray) (s0_1 : Bool) (a1 : ByteArray) (l2 : List (S45)) (a3_0 : Int) (a3_1 : ByteArray) (a3_2 : Int) (l3_3 : List ByteArray) (l3_4 : List (S28)) (l3_5 : List Bool) (a3_6 : ByteArray) (a3_7 : ByteArray) (a3_8 : ByteArray) (l3_9 : List (S45)) : Option (ByteArray × Bool) := if s0_1 = true then (some (s0_0, s0_1)) else ((spec_reader_start.f k s0_0 s0_1 a1 l2).bind fun bt549 => (if bt549.1 = true then (if a3_0 = 0 then (if a3_1.toList = ([] : List UInt8) then (spec_reader_element.j0 k true bt549.2.1 bt549.2.2) else (if a3_0 = 6 then ((spec_isScalar.f a3_0).bind fun t552 => (if t552 = true then (spec_reader_element.j0 k false bt549.2.1 bt549.2.2) else ((spec_hasNone.f k a3_0 a3_1 a3_2 l3_3 l3_4 l3_5 a3_6 a3_7 a3_8 l3_9).bind fun t553 => (spec_reader_element.j0 k t553 bt549.2.1 bt549.2.2)))) else ((spec_isScalar.f a3_0).bind fun t554 => (if t554 = true then (spec_reader_element.j0 k false bt549.2.1 bt549.2.2) else ((spec_hasNone.f k a3_0 a3_1 a3_2 l3_3 l3_4 l3_5 a3_6 a3_7 a3_8 l3_9).bind fun t555 => (spec_reader_element.j0 k t555 bt549.2.1 bt549.2.2)))))) else (if a3_0 = 6 then (if a3_1.toList = ([] : List UInt8) then (spec_reader_element.j0 k true bt549.2.1 bt549.2.2) else ((spec_isScalar.f a3_0).bind fun t556 => (if t556 = true then (spec_reader_element.j0 k false bt549.2.1 bt549.2.2) else ((spec_hasNone.f k a3_0 a3_1 a3_2 l3_3 l3_4 l3_5 a3_6 a3_7 a3_8 l3_9).bind fun t557 => (spec_reader_element.j0 k t557 bt549.2.1 bt549.2.2))))) else ((spec_isScalar.f a3_0).bind fun t558 => (if t558 = true then (spec_reader_element.j0 k false bt549.2.1 bt549.2.2) else ((spec_hasNone.f k a3_0 a3_1 a3_2 l3_3 l3_4 l3_5 a3_6 a3_7 a3_8 l3_9).bind fun t559 => (spec_reader_element.j0 k t559 bt549.2.1 bt549.2.2)))))) else ((spec_reader_content.f k bt549.2.1 bt549.2.2 a3_0 a3_1 a3_2 l3_3 l3_4 l3_5 a3_6 a3_7 a3_8 l3_9).bind fun bt560 => (if 2 + a1.size ≤ 9223372036854775807 then (if ((⟨#[60, 47]⟩ : ByteArray) ++ a1).size + 1 ≤ 9223372036854775807 then ((spec_reader_want.f bt560.1 bt560.2 (((⟨#[60, 47]⟩ : ByteArray) ++ a1) ++ (⟨#[62]⟩ : ByteArray))).bind fun bt562 => (some (bt562.1, bt562.2))) else (none)) else (none)))))
set_option maxHeartbeats 8000000 in
set_option maxRecDepth 100000 in
theorem spec_reader_element.calls (k : Nat) (g : Nat) (s0_0 : ByteArray) (s0_1 : Bool) (a1 : ByteArray) (A2 : Option Addr) (c2 : Nat) (l2 : List (S45)) (a3_0 : Int) (a3_1 : ByteArray) (a3_2 : Int) (A3_3 : Option Addr) (c3_3 : Nat) (l3_3 : List ByteArray) (A3_4 : Option Addr) (c3_4 : Nat) (l3_4 : List (S28)) (A3_5 : Option Addr) (c3_5 : Nat) (l3_5 : List Bool) (a3_6 : ByteArray) (a3_7 : ByteArray) (a3_8 : ByteArray) (A3_9 : Option Addr) (c3_9 : Nat) (l3_9 : List (S45)) (r1 : ByteArray) (r2 : Bool) (w0 w : World) (hI : IsS80 w0 w g s0_0 s0_1) (hB : Below w0.heap.size w0 w) (hr2 : ∀ W_, KeepBut w W_ g none → Kd.C k45 W_ A2 l2.length l2) (hc2 : l2.length ≤ c2) (hr3_3 : Kd.C Kd.string w A3_3 l3_3.length l3_3) (hc3_3 : l3_3.length ≤ c3_3) (hf3_3 : ∀ ad, A3_3 = some ad → 0 < l3_3.length → ad.block ≠ g) (hr3_4 : ∀ W_, KeepBut w W_ g none → Kd.C k28 W_ A3_4 l3_4.length l3_4) (hc3_4 : l3_4.length ≤ c3_4) (hr3_5 : Kd.C Kd.bool w A3_5 l3_5.length l3_5) (hc3_5 : l3_5.length ≤ c3_5) (hf3_5 : ∀ ad, A3_5 = some ad → 0 < l3_5.length → ad.block ≠ g) (hr3_9 : ∀ W_, KeepBut w W_ g none → Kd.C k45 W_ A3_9 l3_9.length l3_9) (hc3_9 : l3_9.length ≤ c3_9) (h : spec_reader_element.f k s0_0 s0_1 a1 l2 a3_0 a3_1 a3_2 l3_3 l3_4 l3_5 a3_6 a3_7 a3_8 l3_9 = some (r1, r2)) :
 Calls Tryz.prog 42 #[.pointer (some ⟨g, 0, none⟩), .string a1, .slice A2 l2.length c2, .agg #[.int .i64 a3_0, .string a3_1, .int .i64 a3_2, .slice A3_3 l3_3.length c3_3, .slice A3_4 l3_4.length c3_4, .slice A3_5 l3_5.length c3_5, .string a3_6, .string a3_7, .string a3_8, .slice A3_9 l3_9.length c3_9]] w fun e w' => e = .returned (.tuple #[]) ∧ IsS80 w0 w' g r1 r2 ∧ Below w0.heap.size w0 w' ∧ KeepBut w w' g none := by
 have hu28 := Tryz.underlying28
 have HR2 := Aside0.mk hr2
 have HC2 := Aside0.mk hc2
 clear hr2 hc2
 have HR3_3 := Aside0.mk hr3_3
 have HC3_3 := Aside0.mk hc3_3
 clear hr3_3 hc3_3
 have HR3_4 := Aside0.mk hr3_4
 have HC3_4 := Aside0.mk hc3_4
 clear hr3_4 hc3_4
 have HR3_5 := Aside0.mk hr3_5
 have HC3_5 := Aside0.mk hc3_5
 clear hr3_5 hc3_5
 have HR3_9 := Aside0.mk hr3_9
 have HC3_9 := Aside0.mk hc3_9
 clear hr3_9 hc3_9
 have HI0 := Aside0.mk hI
 have HK := Aside0.mk (KeepBut.refl w g none)
 have HL := Aside0.mk hB.size
 clear hI
 have HW0 := Aside0.mk hB.size
 have HB := Aside0.mk hB
 clear hB
 have H : (if s0_1 = true then (some (s0_0, s0_1)) else ((spec_reader_start.f k s0_0 s0_1 a1 l2).bind fun bt549 => (if bt549.1 = true then (if a3_0 = 0 then (if a3_1.toList = ([] : List UInt8) then (spec_reader_element.j0 k true bt549.2.1 bt549.2.2) else (if a3_0 = 6 then ((spec_isScalar.f a3_0).bind fun t552 => (if t552 = true then (spec_reader_element.j0 k false bt549.2.1 bt549.2.2) else ((spec_hasNone.f k a3_0 a3_1 a3_2 l3_3 l3_4 l3_5 a3_6 a3_7 a3_8 l3_9).bind fun t553 => (spec_reader_element.j0 k t553 bt549.2.1 bt549.2.2)))) else ((spec_isScalar.f a3_0).bind fun t554 => (if t554 = true then (spec_reader_element.j0 k false bt549.2.1 bt549.2.2) else ((spec_hasNone.f k a3_0 a3_1 a3_2 l3_3 l3_4 l3_5 a3_6 a3_7 a3_8 l3_9).bind fun t555 => (spec_reader_element.j0 k t555 bt549.2.1 bt549.2.2)))))) else (if a3_0 = 6 then (if a3_1.toList = ([] : List UInt8) then (spec_reader_element.j0 k true bt549.2.1 bt549.2.2) else ((spec_isScalar.f a3_0).bind fun t556 => (if t556 = true then (spec_reader_element.j0 k false bt549.2.1 bt549.2.2) else ((spec_hasNone.f k a3_0 a3_1 a3_2 l3_3 l3_4 l3_5 a3_6 a3_7 a3_8 l3_9).bind fun t557 => (spec_reader_element.j0 k t557 bt549.2.1 bt549.2.2))))) else ((spec_isScalar.f a3_0).bind fun t558 => (if t558 = true then (spec_reader_element.j0 k false bt549.2.1 bt549.2.2) else ((spec_hasNone.f k a3_0 a3_1 a3_2 l3_3 l3_4 l3_5 a3_6 a3_7 a3_8 l3_9).bind fun t559 => (spec_reader_element.j0 k t559 bt549.2.1 bt549.2.2)))))) else ((spec_reader_content.f k bt549.2.1 bt549.2.2 a3_0 a3_1 a3_2 l3_3 l3_4 l3_5 a3_6 a3_7 a3_8 l3_9).bind fun bt560 => (if 2 + a1.size ≤ 9223372036854775807 then (if ((⟨#[60, 47]⟩ : ByteArray) ++ a1).size + 1 ≤ 9223372036854775807 then ((spec_reader_want.f bt560.1 bt560.2 (((⟨#[60, 47]⟩ : ByteArray) ++ a1) ++ (⟨#[62]⟩ : ByteArray))).bind fun bt562 => (some (bt562.1, bt562.2))) else (none)) else (none)))))) = some (r1, r2) := h
 clear h
 by_cases c5 : s0_1 = true
 ·subst c5
  have H1 : (some (s0_0, true)) = some (r1, r2) := by rw [if_pos rfl] at H; exact H
  clear H
  have H := H1
  clear H1
  simp only [Option.some.injEq, Prod.mk.injEq] at H
  obtain ⟨rfl, rfl⟩ := H
  go_enter Tryz.func42, Tryz.ntmps42
  go_wp2_with (first | ((with_reducible refine gate_dst (N := 7) rfl ?_); refine box_event ?hg (N := 7) ?hd (cs := #[.int .i64 a3_0, .string a3_1, .int .i64 a3_2, .slice A3_3 l3_3.length c3_3, .slice A3_4 l3_4.length c3_4, .slice A3_5 l3_5.length c3_5, .string a3_6, .string a3_7, .string a3_8, .slice A3_9 l3_9.length c3_9]) (t := 28) ?hr ?_; (case hd => rfl); (case hg => rfl); (case hr => first | (go_simp; done) | (go_simp; rfl)); intro gb548 hg w6 hbox hb; have n0_ := Aside0.mk (IsS80.below (by repeat ((with_reducible exact HI0.out))) hb); have n1_ := Aside0.mk (KeepBut.trans (by repeat ((with_reducible exact HK.out))) (KeepBut.of_below hb g none) (.inl rfl)); have n2_ := Aside0.mk (below_step (by repeat ((with_reducible exact HB.out))) hb); have n3_ := Aside0.mk (hbox); have n4_ := Aside0.mk ((by rw [hg]; exact (keep_size (w := w) (g := g) (row := none) (by repeat ((with_reducible exact HK.out)))) : w.heap.size ≤ gb548)); have n5_ := Aside0.mk ((Nat.le_trans HW0.out (by rw [hg]; exact (keep_size (w := w) (g := g) (row := none) (by repeat ((with_reducible exact HK.out)))) : w.heap.size ≤ gb548) : w0.heap.size ≤ gb548)); have n6_ := Aside0.mk ((by rw [hg]; exact Nat.ne_of_lt (IsS80.lt (show IsS80 w0 _ g s0_0 true from by repeat ((with_reducible exact HI0.out)))) : g ≠ gb548)); have n7_ := Aside0.mk ((by rw [hg]; exact Nat.ne_of_gt (IsS80.lt (show IsS80 w0 _ g s0_0 true from by repeat ((with_reducible exact HI0.out)))) : gb548 ≠ g)); clear HI0; clear HK; clear HB; have HI0 := n0_; have HK := n1_; have HB := n2_; have BK548 := n3_; have GW548 := n4_; have GE548 := n5_; have NB0_548 := n6_; have NB548_0 := n7_; clear n0_ n1_ n2_ n3_ n4_ n5_ n6_ n7_; clear hb hbox hg; obtain ⟨HGz7, hgz7⟩ := HI0.out; have hcz7_0 := cellS80_0 HGz7; have hcz7_1 := cellS80_1 HGz7; have hfz7_0 := blk_frozen HGz7 0; have hfz7_1 := blk_frozen HGz7 1; clear HGz7 hgz7))
  ((try simp only [Exit.inBlock, Exit.then]); refine bodyPost_ret (results_none rfl _ _ _) rfl ?_)
  exact ⟨by rfl, by repeat ((with_reducible exact HI0.out)), by repeat ((with_reducible exact HB.out)), by repeat ((with_reducible exact HK.out))⟩
 ·replace c5 := Bool.eq_false_iff.mpr c5
  subst c5
  have H1 : ((spec_reader_start.f k s0_0 false a1 l2).bind fun bt549 => (if bt549.1 = true then (if a3_0 = 0 then (if a3_1.toList = ([] : List UInt8) then (spec_reader_element.j0 k true bt549.2.1 bt549.2.2) else (if a3_0 = 6 then ((spec_isScalar.f a3_0).bind fun t552 => (if t552 = true then (spec_reader_element.j0 k false bt549.2.1 bt549.2.2) else ((spec_hasNone.f k a3_0 a3_1 a3_2 l3_3 l3_4 l3_5 a3_6 a3_7 a3_8 l3_9).bind fun t553 => (spec_reader_element.j0 k t553 bt549.2.1 bt549.2.2)))) else ((spec_isScalar.f a3_0).bind fun t554 => (if t554 = true then (spec_reader_element.j0 k false bt549.2.1 bt549.2.2) else ((spec_hasNone.f k a3_0 a3_1 a3_2 l3_3 l3_4 l3_5 a3_6 a3_7 a3_8 l3_9).bind fun t555 => (spec_reader_element.j0 k t555 bt549.2.1 bt549.2.2)))))) else (if a3_0 = 6 then (if a3_1.toList = ([] : List UInt8) then (spec_reader_element.j0 k true bt549.2.1 bt549.2.2) else ((spec_isScalar.f a3_0).bind fun t556 => (if t556 = true then (spec_reader_element.j0 k false bt549.2.1 bt549.2.2) else ((spec_hasNone.f k a3_0 a3_1 a3_2 l3_3 l3_4 l3_5 a3_6 a3_7 a3_8 l3_9).bind fun t557 => (spec_reader_element.j0 k t557 bt549.2.1 bt549.2.2))))) else ((spec_isScalar.f a3_0).bind fun t558 => (if t558 = true then (spec_reader_element.j0 k false bt549.2.1 bt549.2.2) else ((spec_hasNone.f k a3_0 a3_1 a3_2 l3_3 l3_4 l3_5 a3_6 a3_7 a3_8 l3_9).bind fun t559 => (spec_reader_element.j0 k t559 bt549.2.1 bt549.2.2)))))) else ((spec_reader_content.f k bt549.2.1 bt549.2.2 a3_0 a3_1 a3_2 l3_3 l3_4 l3_5 a3_6 a3_7 a3_8 l3_9).bind fun bt560 => (if 2 + a1.size ≤ 9223372036854775807 then (if ((⟨#[60, 47]⟩ : ByteArray) ++ a1).size + 1 ≤ 9223372036854775807 then ((spec_reader_want.f bt560.1 bt560.2 (((⟨#[60, 47]⟩ : ByteArray) ++ a1) ++ (⟨#[62]⟩ : ByteArray))).bind fun bt562 => (some (bt562.1, bt562.2))) else (none)) else (none))))) = some (r1, r2) := by rw [if_neg (show ¬ (false = true) by decide)] at H; exact H
  clear H
  have H := H1
  clear H1
  replace H := Option.bind_eq_some_iff.mp H
  obtain ⟨⟨t549, t550, t551⟩, A80, H⟩ := H
  replace H : (if t549 = true then (if a3_0 = 0 then (if a3_1.toList = ([] : List UInt8) then (spec_reader_element.j0 k true t550 t551) else (if a3_0 = 6 then ((spec_isScalar.f a3_0).bind fun t552 => (if t552 = true then (spec_reader_element.j0 k false t550 t551) else ((spec_hasNone.f k a3_0 a3_1 a3_2 l3_3 l3_4 l3_5 a3_6 a3_7 a3_8 l3_9).bind fun t553 => (spec_reader_element.j0 k t553 t550 t551)))) else ((spec_isScalar.f a3_0).bind fun t554 => (if t554 = true then (spec_reader_element.j0 k false t550 t551) else ((spec_hasNone.f k a3_0 a3_1 a3_2 l3_3 l3_4 l3_5 a3_6 a3_7 a3_8 l3_9).bind fun t555 => (spec_reader_element.j0 k t555 t550 t551)))))) else (if a3_0 = 6 then (if a3_1.toList = ([] : List UInt8) then (spec_reader_element.j0 k true t550 t551) else ((spec_isScalar.f a3_0).bind fun t556 => (if t556 = true then (spec_reader_element.j0 k false t550 t551) else ((spec_hasNone.f k a3_0 a3_1 a3_2 l3_3 l3_4 l3_5 a3_6 a3_7 a3_8 l3_9).bind fun t557 => (spec_reader_element.j0 k t557 t550 t551))))) else ((spec_isScalar.f a3_0).bind fun t558 => (if t558 = true then (spec_reader_element.j0 k false t550 t551) else ((spec_hasNone.f k a3_0 a3_1 a3_2 l3_3 l3_4 l3_5 a3_6 a3_7 a3_8 l3_9).bind fun t559 => (spec_reader_element.j0 k t559 t550 t551)))))) else ((spec_reader_content.f k t550 t551 a3_0 a3_1 a3_2 l3_3 l3_4 l3_5 a3_6 a3_7 a3_8 l3_9).bind fun bt560 => (if 2 + a1.size ≤ 9223372036854775807 then (if ((⟨#[60, 47]⟩ : ByteArray) ++ a1).size + 1 ≤ 9223372036854775807 then ((spec_reader_want.f bt560.1 bt560.2 (((⟨#[60, 47]⟩ : ByteArray) ++ a1) ++ (⟨#[62]⟩ : ByteArray))).bind fun bt562 => (some (bt562.1, bt562.2))) else (none)) else (none)))) = some (r1, r2) := H
  have A8 := Aside0.mk A80
  clear A80
  by_cases c9 : t549 = true
  ·subst c9
   have H1 : (if a3_0 = 0 then (if a3_1.toList = ([] : List UInt8) then (spec_reader_element.j0 k true t550 t551) else (if a3_0 = 6 then ((spec_isScalar.f a3_0).bind fun t552 => (if t552 = true then (spec_reader_element.j0 k false t550 t551) else ((spec_hasNone.f k a3_0 a3_1 a3_2 l3_3 l3_4 l3_5 a3_6 a3_7 a3_8 l3_9).bind fun t553 => (spec_reader_element.j0 k t553 t550 t551)))) else ((spec_isScalar.f a3_0).bind fun t554 => (if t554 = true then (spec_reader_element.j0 k false t550 t551) else ((spec_hasNone.f k a3_0 a3_1 a3_2 l3_3 l3_4 l3_5 a3_6 a3_7 a3_8 l3_9).bind fun t555 => (spec_reader_element.j0 k t555 t550 t551)))))) else (if a3_0 = 6 then (if a3_1.toList = ([] : List UInt8) then (spec_reader_element.j0 k true t550 t551) else ((spec_isScalar.f a3_0).bind fun t556 => (if t556 = true then (spec_reader_element.j0 k false t550 t551) else ((spec_hasNone.f k a3_0 a3_1 a3_2 l3_3 l3_4 l3_5 a3_6 a3_7 a3_8 l3_9).bind fun t557 => (spec_reader_element.j0 k t557 t550 t551))))) else ((spec_isScalar.f a3_0).bind fun t558 => (if t558 = true then (spec_reader_element.j0 k false t550 t551) else ((spec_hasNone.f k a3_0 a3_1 a3_2 l3_3 l3_4 l3_5 a3_6 a3_7 a3_8 l3_9).bind fun t559 => (spec_reader_element.j0 k t559 t550 t551)))))) = some (r1, r2) := by rw [if_pos rfl] at H; exact H
   clear H
   have H := H1
   clear H1
   have HC10 := Aside0.mk H
   clear H
   go_enter Tryz.func42, Tryz.ntmps42
   go_upto_region 3 with (first | ((with_reducible refine gate_dst (N := 7) rfl ?_); refine box_event ?hg (N := 7) ?hd (cs := #[.int .i64 a3_0, .string a3_1, .int .i64 a3_2, .slice A3_3 l3_3.length c3_3, .slice A3_4 l3_4.length c3_4, .slice A3_5 l3_5.length c3_5, .string a3_6, .string a3_7, .string a3_8, .slice A3_9 l3_9.length c3_9]) (t := 28) ?hr ?_; (case hd => rfl); (case hg => rfl); (case hr => first | (go_simp; done) | (go_simp; rfl)); intro gb548 hg w11 hbox hb; have n0_ := Aside0.mk (IsS80.below (by repeat ((with_reducible exact HI0.out))) hb); have n1_ := Aside0.mk (KeepBut.trans (by repeat ((with_reducible exact HK.out))) (KeepBut.of_below hb g none) (.inl rfl)); have n2_ := Aside0.mk (below_step (by repeat ((with_reducible exact HB.out))) hb); have n3_ := Aside0.mk (hbox); have n4_ := Aside0.mk ((by rw [hg]; exact (keep_size (w := w) (g := g) (row := none) (by repeat ((with_reducible exact HK.out)))) : w.heap.size ≤ gb548)); have n5_ := Aside0.mk ((Nat.le_trans HW0.out (by rw [hg]; exact (keep_size (w := w) (g := g) (row := none) (by repeat ((with_reducible exact HK.out)))) : w.heap.size ≤ gb548) : w0.heap.size ≤ gb548)); have n6_ := Aside0.mk ((by rw [hg]; exact Nat.ne_of_lt (IsS80.lt (show IsS80 w0 _ g s0_0 false from by repeat ((with_reducible exact HI0.out)))) : g ≠ gb548)); have n7_ := Aside0.mk ((by rw [hg]; exact Nat.ne_of_gt (IsS80.lt (show IsS80 w0 _ g s0_0 false from by repeat ((with_reducible exact HI0.out)))) : gb548 ≠ g)); clear HI0; clear HK; clear HB; have HI0 := n0_; have HK := n1_; have HB := n2_; have BK548 := n3_; have GW548 := n4_; have GE548 := n5_; have NB0_548 := n6_; have NB548_0 := n7_; clear n0_ n1_ n2_ n3_ n4_ n5_ n6_ n7_; clear hb hbox hg; obtain ⟨HGz12, hgz12⟩ := HI0.out; have hcz12_0 := cellS80_0 HGz12; have hcz12_1 := cellS80_1 HGz12; have hfz12_0 := blk_frozen HGz12 0; have hfz12_1 := blk_frozen HGz12 1; clear HGz12 hgz12) | ((with_reducible refine gate_callee (f := 104) rfl ?_); refine goesL_ (some 15) rfl rfl Tryz.func104 (by kernel_rfl) rfl #[.pointer (some ⟨g, 0, none⟩), .string a1, .slice A2 l2.length c2] rfl (by (try simp only [List.map_toArray, List.map_cons, List.map_nil]); rfl) ?_; (with_reducible refine (spec_reader_start.calls k g s0_0 false a1 _ _ l2 true t550 t551 w0 _ ?side1 ?side2 ?side3 ?side4 A8.out).mono ?_); (case side1 => repeat ((with_reducible exact HI0.out))); (case side2 => repeat ((with_reducible exact HB.out))); (case side3 => exact Kd.C_foot_step HR2.out (by repeat ((with_reducible exact HK.out)))); (case side4 => exact HC2.out); rintro e w13 ⟨rfl, hi, hb, hk⟩; refine ⟨_, rfl, ?_⟩; have n0_ := Aside0.mk (KeepBut.blk hk (g' := gb548) (o := .cells #[.int .i64 a3_0, .string a3_1, .int .i64 a3_2, .slice A3_3 l3_3.length c3_3, .slice A3_4 l3_4.length c3_4, .slice A3_5 l3_5.length c3_5, .string a3_6, .string a3_7, .string a3_8, .slice A3_9 l3_9.length c3_9] 28 (0, 0)) (by (with_reducible repeat (fail)); exact BK548.out) NB548_0.out (by simp)); have n1_ := Aside0.mk (KeepBut.trans (by repeat ((with_reducible exact HK.out))) hk (.inl rfl)); have n2_ := Aside0.mk (hb); have n3_ := Aside0.mk (hi); clear BK548; clear HK; clear HB; clear HI0; have BK548 := n0_; have HK := n1_; have HB := n2_; have HI0 := n3_; clear n0_ n1_ n2_ n3_; (try clear hb); (try clear hb2); (try clear hk); (try clear hi)))
   (try simp only [Act.put, List.setIfInBounds_toArray, List.set_cons_zero, List.set_cons_succ])
   go_cut [43] (fun v43 wc => ∃ (kq : Nat) (x43_9 : Bool), v43 = .bool x43_9 ∧ Aside0 (spec_reader_element.j0 kq x43_9 t550 t551 = some (r1, r2)) ∧ Aside0 (kq ≤ k) ∧ Aside0 (wc.heap[gb548]? = some (.cells #[.int .i64 a3_0, .string a3_1, .int .i64 a3_2, (.slice A3_3 l3_3.length c3_3), (.slice A3_4 l3_4.length c3_4), (.slice A3_5 l3_5.length c3_5), .string a3_6, .string a3_7, .string a3_8, (.slice A3_9 l3_9.length c3_9)] 28 (0, 0))) ∧ Aside0 (IsS80 w0 wc g t550 t551) ∧ Aside0 (KeepBut w wc g none) ∧ Aside0 (Below w0.heap.size w0 wc))
   case first =>
    have H := HC10.out
    clear HC10
    by_cases c14 : a3_0 = 0
    ·rw [if_pos c14] at H
     have c14b0 : (a3_0 == 0) = true := beq_iff_eq.mpr c14
     have c14b1 : (a3_0 != 0) = false := bne_eq_false_iff_eq.mpr c14
     clear c14
     (first | rw [c14b0] | (simp only [i64_w, i32_w]; rw [c14b0]) | skip)
     by_cases c15 : a3_1.toList = ([] : List UInt8)
     ·rw [if_pos c15] at H
      have c15b0 : (a3_1.toList == ([] : List UInt8)) = true := beq_iff_eq.mpr c15
      have c15b1 : (a3_1.toList != ([] : List UInt8)) = false := bne_eq_false_iff_eq.mpr c15
      clear c15
      have H' := Aside0.mk H
      clear H
      have hnb16 := NB548_0.out
      have hnc16 := NB0_548.out
      have hcz17_0 : w13.cell? ⟨gb548, 0, none⟩ = some (.int .i64 a3_0) := (blk_cell BK548.out 0).trans rfl
      have hcz17_1 : w13.cell? ⟨gb548, 1, none⟩ = some (.string a3_1) := (blk_cell BK548.out 1).trans rfl
      have hcz17_2 : w13.cell? ⟨gb548, 2, none⟩ = some (.int .i64 a3_2) := (blk_cell BK548.out 2).trans rfl
      have hcz17_3 : w13.cell? ⟨gb548, 3, none⟩ = some (.slice A3_3 l3_3.length c3_3) := (blk_cell BK548.out 3).trans rfl
      have hcz17_4 : w13.cell? ⟨gb548, 4, none⟩ = some (.slice A3_4 l3_4.length c3_4) := (blk_cell BK548.out 4).trans rfl
      have hcz17_5 : w13.cell? ⟨gb548, 5, none⟩ = some (.slice A3_5 l3_5.length c3_5) := (blk_cell BK548.out 5).trans rfl
      have hcz17_6 : w13.cell? ⟨gb548, 6, none⟩ = some (.string a3_6) := (blk_cell BK548.out 6).trans rfl
      have hcz17_7 : w13.cell? ⟨gb548, 7, none⟩ = some (.string a3_7) := (blk_cell BK548.out 7).trans rfl
      have hcz17_8 : w13.cell? ⟨gb548, 8, none⟩ = some (.string a3_8) := (blk_cell BK548.out 8).trans rfl
      have hcz17_9 : w13.cell? ⟨gb548, 9, none⟩ = some (.slice A3_9 l3_9.length c3_9) := (blk_cell BK548.out 9).trans rfl
      have hfz17_0 := blk_frozen BK548.out 0
      have hfz17_1 := blk_frozen BK548.out 1
      have hfz17_2 := blk_frozen BK548.out 2
      have hfz17_3 := blk_frozen BK548.out 3
      have hfz17_4 := blk_frozen BK548.out 4
      have hfz17_5 := blk_frozen BK548.out 5
      have hfz17_6 := blk_frozen BK548.out 6
      have hfz17_7 := blk_frozen BK548.out 7
      have hfz17_8 := blk_frozen BK548.out 8
      have hfz17_9 := blk_frozen BK548.out 9
      go_wp2
      go_meet
      case rel => exact ⟨_, (true), (by first | rfl | (simp; done) | (simp [*]; done)), H', ⟨by first | omega | exact Nat.le_refl _⟩, ⟨by (with_reducible repeat (fail)); exact BK548.out⟩, ⟨by repeat ((with_reducible exact HI0.out))⟩, ⟨by repeat ((with_reducible exact HK.out))⟩, ⟨by repeat ((with_reducible exact HB.out))⟩⟩
     ·rw [if_neg c15] at H
      have c15b0 : (a3_1.toList == ([] : List UInt8)) = false := beq_eq_false_iff_ne.mpr c15
      have c15b1 : (a3_1.toList != ([] : List UInt8)) = true := bne_iff_ne.mpr c15
      by_cases c18 : a3_0 = 6
      ·rw [if_pos c18] at H
       have c18b0 : (a3_0 == 6) = true := beq_iff_eq.mpr c18
       have c18b1 : (a3_0 != 6) = false := bne_eq_false_iff_eq.mpr c18
       clear c18
       replace H := Option.bind_eq_some_iff.mp H
       obtain ⟨t552, A190, H⟩ := H
       replace H : (if t552 = true then (spec_reader_element.j0 k false t550 t551) else ((spec_hasNone.f k a3_0 a3_1 a3_2 l3_3 l3_4 l3_5 a3_6 a3_7 a3_8 l3_9).bind fun t553 => (spec_reader_element.j0 k t553 t550 t551))) = some (r1, r2) := H
       have A19 := Aside0.mk A190
       clear A190
       by_cases c20 : t552 = true
       ·subst c20
        have H1 : (spec_reader_element.j0 k false t550 t551) = some (r1, r2) := by rw [if_pos rfl] at H; exact H
        clear H
        have H := H1
        clear H1
        have H' := Aside0.mk H
        clear H
        have hnb21 := NB548_0.out
        have hnc21 := NB0_548.out
        have hcz22_0 : w13.cell? ⟨gb548, 0, none⟩ = some (.int .i64 a3_0) := (blk_cell BK548.out 0).trans rfl
        have hcz22_1 : w13.cell? ⟨gb548, 1, none⟩ = some (.string a3_1) := (blk_cell BK548.out 1).trans rfl
        have hcz22_2 : w13.cell? ⟨gb548, 2, none⟩ = some (.int .i64 a3_2) := (blk_cell BK548.out 2).trans rfl
        have hcz22_3 : w13.cell? ⟨gb548, 3, none⟩ = some (.slice A3_3 l3_3.length c3_3) := (blk_cell BK548.out 3).trans rfl
        have hcz22_4 : w13.cell? ⟨gb548, 4, none⟩ = some (.slice A3_4 l3_4.length c3_4) := (blk_cell BK548.out 4).trans rfl
        have hcz22_5 : w13.cell? ⟨gb548, 5, none⟩ = some (.slice A3_5 l3_5.length c3_5) := (blk_cell BK548.out 5).trans rfl
        have hcz22_6 : w13.cell? ⟨gb548, 6, none⟩ = some (.string a3_6) := (blk_cell BK548.out 6).trans rfl
        have hcz22_7 : w13.cell? ⟨gb548, 7, none⟩ = some (.string a3_7) := (blk_cell BK548.out 7).trans rfl
        have hcz22_8 : w13.cell? ⟨gb548, 8, none⟩ = some (.string a3_8) := (blk_cell BK548.out 8).trans rfl
        have hcz22_9 : w13.cell? ⟨gb548, 9, none⟩ = some (.slice A3_9 l3_9.length c3_9) := (blk_cell BK548.out 9).trans rfl
        have hfz22_0 := blk_frozen BK548.out 0
        have hfz22_1 := blk_frozen BK548.out 1
        have hfz22_2 := blk_frozen BK548.out 2
        have hfz22_3 := blk_frozen BK548.out 3
        have hfz22_4 := blk_frozen BK548.out 4
        have hfz22_5 := blk_frozen BK548.out 5
        have hfz22_6 := blk_frozen BK548.out 6
        have hfz22_7 := blk_frozen BK548.out 7
        have hfz22_8 := blk_frozen BK548.out 8
        have hfz22_9 := blk_frozen BK548.out 9
        go_wp2_with (first | (go_at_call 105; (with_reducible refine (spec_isScalar.calls a3_0 true _ A19.out).mono ?_); rintro e w' ⟨rfl, ⟨nd, rfl⟩⟩))
        go_meet
        case rel => exact ⟨_, (false), (by first | rfl | (simp; done) | (simp [*]; done)), H', ⟨by first | omega | exact Nat.le_refl _⟩, ⟨by (with_reducible repeat (refine blk_drewN ?_ _)); exact BK548.out⟩, ⟨by repeat ((with_reducible first | exact HI0.out | apply IsS80.drewN ))⟩, ⟨by repeat ((with_reducible first | exact HK.out | apply keep_drewN ))⟩, ⟨by repeat ((with_reducible first | exact HB.out | apply pw_below_drewN ))⟩⟩
       ·replace c20 := Bool.eq_false_iff.mpr c20
        subst c20
        have H1 : ((spec_hasNone.f k a3_0 a3_1 a3_2 l3_3 l3_4 l3_5 a3_6 a3_7 a3_8 l3_9).bind fun t553 => (spec_reader_element.j0 k t553 t550 t551)) = some (r1, r2) := by rw [if_neg (show ¬ (false = true) by decide)] at H; exact H
        clear H
        have H := H1
        clear H1
        replace H := Option.bind_eq_some_iff.mp H
        obtain ⟨t553, A230, H⟩ := H
        replace H : (spec_reader_element.j0 k t553 t550 t551) = some (r1, r2) := H
        have A23 := Aside0.mk A230
        clear A230
        have H' := Aside0.mk H
        clear H
        have hnb24 := NB548_0.out
        have hnc24 := NB0_548.out
        have hcz25_0 : w13.cell? ⟨gb548, 0, none⟩ = some (.int .i64 a3_0) := (blk_cell BK548.out 0).trans rfl
        have hcz25_1 : w13.cell? ⟨gb548, 1, none⟩ = some (.string a3_1) := (blk_cell BK548.out 1).trans rfl
        have hcz25_2 : w13.cell? ⟨gb548, 2, none⟩ = some (.int .i64 a3_2) := (blk_cell BK548.out 2).trans rfl
        have hcz25_3 : w13.cell? ⟨gb548, 3, none⟩ = some (.slice A3_3 l3_3.length c3_3) := (blk_cell BK548.out 3).trans rfl
        have hcz25_4 : w13.cell? ⟨gb548, 4, none⟩ = some (.slice A3_4 l3_4.length c3_4) := (blk_cell BK548.out 4).trans rfl
        have hcz25_5 : w13.cell? ⟨gb548, 5, none⟩ = some (.slice A3_5 l3_5.length c3_5) := (blk_cell BK548.out 5).trans rfl
        have hcz25_6 : w13.cell? ⟨gb548, 6, none⟩ = some (.string a3_6) := (blk_cell BK548.out 6).trans rfl
        have hcz25_7 : w13.cell? ⟨gb548, 7, none⟩ = some (.string a3_7) := (blk_cell BK548.out 7).trans rfl
        have hcz25_8 : w13.cell? ⟨gb548, 8, none⟩ = some (.string a3_8) := (blk_cell BK548.out 8).trans rfl
        have hcz25_9 : w13.cell? ⟨gb548, 9, none⟩ = some (.slice A3_9 l3_9.length c3_9) := (blk_cell BK548.out 9).trans rfl
        have hfz25_0 := blk_frozen BK548.out 0
        have hfz25_1 := blk_frozen BK548.out 1
        have hfz25_2 := blk_frozen BK548.out 2
        have hfz25_3 := blk_frozen BK548.out 3
        have hfz25_4 := blk_frozen BK548.out 4
        have hfz25_5 := blk_frozen BK548.out 5
        have hfz25_6 := blk_frozen BK548.out 6
        have hfz25_7 := blk_frozen BK548.out 7
        have hfz25_8 := blk_frozen BK548.out 8
        have hfz25_9 := blk_frozen BK548.out 9
        go_wp2_with (first | (go_at_call 105; (with_reducible refine (spec_isScalar.calls a3_0 false _ A19.out).mono ?_); rintro e w' ⟨rfl, ⟨nd, rfl⟩⟩) | (go_at_call 106; (with_reducible refine (spec_hasNone.calls k a3_0 a3_1 a3_2 _ _ l3_3 _ _ l3_4 _ _ l3_5 a3_6 a3_7 a3_8 _ _ l3_9 t553 _ ?side1 ?side2 ?side3 ?side4 ?side5 ?side6 ?side7 ?side8 A23.out).mono ?_); (case side1 => exact Kd.C_keep (⟨#[]⟩ : ByteArray) HR3_3.out (by repeat ((with_reducible first | exact HK.out | apply keep_drewN ))) hf3_3); (case side2 => exact HC3_3.out); (case side3 => exact Kd.C_foot_now HR3_4.out (by repeat ((with_reducible first | exact HK.out | apply keep_drewN )))); (case side4 => exact HC3_4.out); (case side5 => exact Kd.C_keep false HR3_5.out (by repeat ((with_reducible first | exact HK.out | apply keep_drewN ))) hf3_5); (case side6 => exact HC3_5.out); (case side7 => exact Kd.C_foot_now HR3_9.out (by repeat ((with_reducible first | exact HK.out | apply keep_drewN )))); (case side8 => exact HC3_9.out); rintro e w26 ⟨rfl, hb⟩; have n0_ := Aside0.mk (IsS80.below (by repeat ((with_reducible first | exact HI0.out | apply IsS80.drewN ))) hb); have n1_ := Aside0.mk (blk_below (g := gb548) (o := .cells #[.int .i64 a3_0, .string a3_1, .int .i64 a3_2, .slice A3_3 l3_3.length c3_3, .slice A3_4 l3_4.length c3_4, .slice A3_5 l3_5.length c3_5, .string a3_6, .string a3_7, .string a3_8, .slice A3_9 l3_9.length c3_9] 28 (0, 0)) (by (with_reducible repeat (refine blk_drewN ?_ _)); exact BK548.out) hb); have n2_ := Aside0.mk (KeepBut.trans (by repeat ((with_reducible first | exact HK.out | apply keep_drewN ))) (KeepBut.of_below hb g none) (.inl rfl)); have n3_ := Aside0.mk (below_step (by repeat ((with_reducible first | exact HB.out | apply pw_below_drewN ))) hb); clear HI0; clear BK548; clear HK; clear HB; have HI0 := n0_; have BK548 := n1_; have HK := n2_; have HB := n3_; clear n0_ n1_ n2_ n3_; (try clear hb); (try clear hb2); (try clear hk); (try clear hi)))
        go_meet
        case rel => exact ⟨_, (t553), (by first | rfl | (simp; done) | (simp [*]; done)), H', ⟨by first | omega | exact Nat.le_refl _⟩, ⟨by (with_reducible repeat (fail)); exact BK548.out⟩, ⟨by repeat ((with_reducible exact HI0.out))⟩, ⟨by repeat ((with_reducible exact HK.out))⟩, ⟨by repeat ((with_reducible exact HB.out))⟩⟩
      ·rw [if_neg c18] at H
       have c18b0 : (a3_0 == 6) = false := beq_eq_false_iff_ne.mpr c18
       have c18b1 : (a3_0 != 6) = true := bne_iff_ne.mpr c18
       replace H := Option.bind_eq_some_iff.mp H
       obtain ⟨t554, A270, H⟩ := H
       replace H : (if t554 = true then (spec_reader_element.j0 k false t550 t551) else ((spec_hasNone.f k a3_0 a3_1 a3_2 l3_3 l3_4 l3_5 a3_6 a3_7 a3_8 l3_9).bind fun t555 => (spec_reader_element.j0 k t555 t550 t551))) = some (r1, r2) := H
       have A27 := Aside0.mk A270
       clear A270
       by_cases c28 : t554 = true
       ·subst c28
        have H1 : (spec_reader_element.j0 k false t550 t551) = some (r1, r2) := by rw [if_pos rfl] at H; exact H
        clear H
        have H := H1
        clear H1
        have H' := Aside0.mk H
        clear H
        have hnb29 := NB548_0.out
        have hnc29 := NB0_548.out
        have hcz30_0 : w13.cell? ⟨gb548, 0, none⟩ = some (.int .i64 a3_0) := (blk_cell BK548.out 0).trans rfl
        have hcz30_1 : w13.cell? ⟨gb548, 1, none⟩ = some (.string a3_1) := (blk_cell BK548.out 1).trans rfl
        have hcz30_2 : w13.cell? ⟨gb548, 2, none⟩ = some (.int .i64 a3_2) := (blk_cell BK548.out 2).trans rfl
        have hcz30_3 : w13.cell? ⟨gb548, 3, none⟩ = some (.slice A3_3 l3_3.length c3_3) := (blk_cell BK548.out 3).trans rfl
        have hcz30_4 : w13.cell? ⟨gb548, 4, none⟩ = some (.slice A3_4 l3_4.length c3_4) := (blk_cell BK548.out 4).trans rfl
        have hcz30_5 : w13.cell? ⟨gb548, 5, none⟩ = some (.slice A3_5 l3_5.length c3_5) := (blk_cell BK548.out 5).trans rfl
        have hcz30_6 : w13.cell? ⟨gb548, 6, none⟩ = some (.string a3_6) := (blk_cell BK548.out 6).trans rfl
        have hcz30_7 : w13.cell? ⟨gb548, 7, none⟩ = some (.string a3_7) := (blk_cell BK548.out 7).trans rfl
        have hcz30_8 : w13.cell? ⟨gb548, 8, none⟩ = some (.string a3_8) := (blk_cell BK548.out 8).trans rfl
        have hcz30_9 : w13.cell? ⟨gb548, 9, none⟩ = some (.slice A3_9 l3_9.length c3_9) := (blk_cell BK548.out 9).trans rfl
        have hfz30_0 := blk_frozen BK548.out 0
        have hfz30_1 := blk_frozen BK548.out 1
        have hfz30_2 := blk_frozen BK548.out 2
        have hfz30_3 := blk_frozen BK548.out 3
        have hfz30_4 := blk_frozen BK548.out 4
        have hfz30_5 := blk_frozen BK548.out 5
        have hfz30_6 := blk_frozen BK548.out 6
        have hfz30_7 := blk_frozen BK548.out 7
        have hfz30_8 := blk_frozen BK548.out 8
        have hfz30_9 := blk_frozen BK548.out 9
        go_wp2_with (first | (go_at_call 105; (with_reducible refine (spec_isScalar.calls a3_0 true _ A27.out).mono ?_); rintro e w' ⟨rfl, ⟨nd, rfl⟩⟩))
        go_meet
        case rel => exact ⟨_, (false), (by first | rfl | (simp; done) | (simp [*]; done)), H', ⟨by first | omega | exact Nat.le_refl _⟩, ⟨by (with_reducible repeat (refine blk_drewN ?_ _)); exact BK548.out⟩, ⟨by repeat ((with_reducible first | exact HI0.out | apply IsS80.drewN ))⟩, ⟨by repeat ((with_reducible first | exact HK.out | apply keep_drewN ))⟩, ⟨by repeat ((with_reducible first | exact HB.out | apply pw_below_drewN ))⟩⟩
       ·replace c28 := Bool.eq_false_iff.mpr c28
        subst c28
        have H1 : ((spec_hasNone.f k a3_0 a3_1 a3_2 l3_3 l3_4 l3_5 a3_6 a3_7 a3_8 l3_9).bind fun t555 => (spec_reader_element.j0 k t555 t550 t551)) = some (r1, r2) := by rw [if_neg (show ¬ (false = true) by decide)] at H; exact H
        clear H
        have H := H1
        clear H1
        replace H := Option.bind_eq_some_iff.mp H
        obtain ⟨t555, A310, H⟩ := H
        replace H : (spec_reader_element.j0 k t555 t550 t551) = some (r1, r2) := H
        have A31 := Aside0.mk A310
        clear A310
        have H' := Aside0.mk H
        clear H
        have hnb32 := NB548_0.out
        have hnc32 := NB0_548.out
        have hcz33_0 : w13.cell? ⟨gb548, 0, none⟩ = some (.int .i64 a3_0) := (blk_cell BK548.out 0).trans rfl
        have hcz33_1 : w13.cell? ⟨gb548, 1, none⟩ = some (.string a3_1) := (blk_cell BK548.out 1).trans rfl
        have hcz33_2 : w13.cell? ⟨gb548, 2, none⟩ = some (.int .i64 a3_2) := (blk_cell BK548.out 2).trans rfl
        have hcz33_3 : w13.cell? ⟨gb548, 3, none⟩ = some (.slice A3_3 l3_3.length c3_3) := (blk_cell BK548.out 3).trans rfl
        have hcz33_4 : w13.cell? ⟨gb548, 4, none⟩ = some (.slice A3_4 l3_4.length c3_4) := (blk_cell BK548.out 4).trans rfl
        have hcz33_5 : w13.cell? ⟨gb548, 5, none⟩ = some (.slice A3_5 l3_5.length c3_5) := (blk_cell BK548.out 5).trans rfl
        have hcz33_6 : w13.cell? ⟨gb548, 6, none⟩ = some (.string a3_6) := (blk_cell BK548.out 6).trans rfl
        have hcz33_7 : w13.cell? ⟨gb548, 7, none⟩ = some (.string a3_7) := (blk_cell BK548.out 7).trans rfl
        have hcz33_8 : w13.cell? ⟨gb548, 8, none⟩ = some (.string a3_8) := (blk_cell BK548.out 8).trans rfl
        have hcz33_9 : w13.cell? ⟨gb548, 9, none⟩ = some (.slice A3_9 l3_9.length c3_9) := (blk_cell BK548.out 9).trans rfl
        have hfz33_0 := blk_frozen BK548.out 0
        have hfz33_1 := blk_frozen BK548.out 1
        have hfz33_2 := blk_frozen BK548.out 2
        have hfz33_3 := blk_frozen BK548.out 3
        have hfz33_4 := blk_frozen BK548.out 4
        have hfz33_5 := blk_frozen BK548.out 5
        have hfz33_6 := blk_frozen BK548.out 6
        have hfz33_7 := blk_frozen BK548.out 7
        have hfz33_8 := blk_frozen BK548.out 8
        have hfz33_9 := blk_frozen BK548.out 9
        go_wp2_with (first | (go_at_call 105; (with_reducible refine (spec_isScalar.calls a3_0 false _ A27.out).mono ?_); rintro e w' ⟨rfl, ⟨nd, rfl⟩⟩) | (go_at_call 106; (with_reducible refine (spec_hasNone.calls k a3_0 a3_1 a3_2 _ _ l3_3 _ _ l3_4 _ _ l3_5 a3_6 a3_7 a3_8 _ _ l3_9 t555 _ ?side1 ?side2 ?side3 ?side4 ?side5 ?side6 ?side7 ?side8 A31.out).mono ?_); (case side1 => exact Kd.C_keep (⟨#[]⟩ : ByteArray) HR3_3.out (by repeat ((with_reducible first | exact HK.out | apply keep_drewN ))) hf3_3); (case side2 => exact HC3_3.out); (case side3 => exact Kd.C_foot_now HR3_4.out (by repeat ((with_reducible first | exact HK.out | apply keep_drewN )))); (case side4 => exact HC3_4.out); (case side5 => exact Kd.C_keep false HR3_5.out (by repeat ((with_reducible first | exact HK.out | apply keep_drewN ))) hf3_5); (case side6 => exact HC3_5.out); (case side7 => exact Kd.C_foot_now HR3_9.out (by repeat ((with_reducible first | exact HK.out | apply keep_drewN )))); (case side8 => exact HC3_9.out); rintro e w34 ⟨rfl, hb⟩; have n0_ := Aside0.mk (IsS80.below (by repeat ((with_reducible first | exact HI0.out | apply IsS80.drewN ))) hb); have n1_ := Aside0.mk (blk_below (g := gb548) (o := .cells #[.int .i64 a3_0, .string a3_1, .int .i64 a3_2, .slice A3_3 l3_3.length c3_3, .slice A3_4 l3_4.length c3_4, .slice A3_5 l3_5.length c3_5, .string a3_6, .string a3_7, .string a3_8, .slice A3_9 l3_9.length c3_9] 28 (0, 0)) (by (with_reducible repeat (refine blk_drewN ?_ _)); exact BK548.out) hb); have n2_ := Aside0.mk (KeepBut.trans (by repeat ((with_reducible first | exact HK.out | apply keep_drewN ))) (KeepBut.of_below hb g none) (.inl rfl)); have n3_ := Aside0.mk (below_step (by repeat ((with_reducible first | exact HB.out | apply pw_below_drewN ))) hb); clear HI0; clear BK548; clear HK; clear HB; have HI0 := n0_; have BK548 := n1_; have HK := n2_; have HB := n3_; clear n0_ n1_ n2_ n3_; (try clear hb); (try clear hb2); (try clear hk); (try clear hi)))
        go_meet
        case rel => exact ⟨_, (t555), (by first | rfl | (simp; done) | (simp [*]; done)), H', ⟨by first | omega | exact Nat.le_refl _⟩, ⟨by (with_reducible repeat (fail)); exact BK548.out⟩, ⟨by repeat ((with_reducible exact HI0.out))⟩, ⟨by repeat ((with_reducible exact HK.out))⟩, ⟨by repeat ((with_reducible exact HB.out))⟩⟩
    ·rw [if_neg c14] at H
     have c14b0 : (a3_0 == 0) = false := beq_eq_false_iff_ne.mpr c14
     have c14b1 : (a3_0 != 0) = true := bne_iff_ne.mpr c14
     (first | rw [c14b0] | (simp only [i64_w, i32_w]; rw [c14b0]) | skip)
     by_cases c35 : a3_0 = 6
     ·rw [if_pos c35] at H
      have c35b0 : (a3_0 == 6) = true := beq_iff_eq.mpr c35
      have c35b1 : (a3_0 != 6) = false := bne_eq_false_iff_eq.mpr c35
      clear c35
      by_cases c36 : a3_1.toList = ([] : List UInt8)
      ·rw [if_pos c36] at H
       have c36b0 : (a3_1.toList == ([] : List UInt8)) = true := beq_iff_eq.mpr c36
       have c36b1 : (a3_1.toList != ([] : List UInt8)) = false := bne_eq_false_iff_eq.mpr c36
       clear c36
       have H' := Aside0.mk H
       clear H
       have hnb37 := NB548_0.out
       have hnc37 := NB0_548.out
       have hcz38_0 : w13.cell? ⟨gb548, 0, none⟩ = some (.int .i64 a3_0) := (blk_cell BK548.out 0).trans rfl
       have hcz38_1 : w13.cell? ⟨gb548, 1, none⟩ = some (.string a3_1) := (blk_cell BK548.out 1).trans rfl
       have hcz38_2 : w13.cell? ⟨gb548, 2, none⟩ = some (.int .i64 a3_2) := (blk_cell BK548.out 2).trans rfl
       have hcz38_3 : w13.cell? ⟨gb548, 3, none⟩ = some (.slice A3_3 l3_3.length c3_3) := (blk_cell BK548.out 3).trans rfl
       have hcz38_4 : w13.cell? ⟨gb548, 4, none⟩ = some (.slice A3_4 l3_4.length c3_4) := (blk_cell BK548.out 4).trans rfl
       have hcz38_5 : w13.cell? ⟨gb548, 5, none⟩ = some (.slice A3_5 l3_5.length c3_5) := (blk_cell BK548.out 5).trans rfl
       have hcz38_6 : w13.cell? ⟨gb548, 6, none⟩ = some (.string a3_6) := (blk_cell BK548.out 6).trans rfl
       have hcz38_7 : w13.cell? ⟨gb548, 7, none⟩ = some (.string a3_7) := (blk_cell BK548.out 7).trans rfl
       have hcz38_8 : w13.cell? ⟨gb548, 8, none⟩ = some (.string a3_8) := (blk_cell BK548.out 8).trans rfl
       have hcz38_9 : w13.cell? ⟨gb548, 9, none⟩ = some (.slice A3_9 l3_9.length c3_9) := (blk_cell BK548.out 9).trans rfl
       have hfz38_0 := blk_frozen BK548.out 0
       have hfz38_1 := blk_frozen BK548.out 1
       have hfz38_2 := blk_frozen BK548.out 2
       have hfz38_3 := blk_frozen BK548.out 3
       have hfz38_4 := blk_frozen BK548.out 4
       have hfz38_5 := blk_frozen BK548.out 5
       have hfz38_6 := blk_frozen BK548.out 6
       have hfz38_7 := blk_frozen BK548.out 7
       have hfz38_8 := blk_frozen BK548.out 8
       have hfz38_9 := blk_frozen BK548.out 9
       go_wp2
       go_meet
       case rel => exact ⟨_, (true), (by first | rfl | (simp; done) | (simp [*]; done)), H', ⟨by first | omega | exact Nat.le_refl _⟩, ⟨by (with_reducible repeat (fail)); exact BK548.out⟩, ⟨by repeat ((with_reducible exact HI0.out))⟩, ⟨by repeat ((with_reducible exact HK.out))⟩, ⟨by repeat ((with_reducible exact HB.out))⟩⟩
      ·rw [if_neg c36] at H
       have c36b0 : (a3_1.toList == ([] : List UInt8)) = false := beq_eq_false_iff_ne.mpr c36
       have c36b1 : (a3_1.toList != ([] : List UInt8)) = true := bne_iff_ne.mpr c36
       replace H := Option.bind_eq_some_iff.mp H
       obtain ⟨t556, A390, H⟩ := H
       replace H : (if t556 = true then (spec_reader_element.j0 k false t550 t551) else ((spec_hasNone.f k a3_0 a3_1 a3_2 l3_3 l3_4 l3_5 a3_6 a3_7 a3_8 l3_9).bind fun t557 => (spec_reader_element.j0 k t557 t550 t551))) = some (r1, r2) := H
       have A39 := Aside0.mk A390
       clear A390
       by_cases c40 : t556 = true
       ·subst c40
        have H1 : (spec_reader_element.j0 k false t550 t551) = some (r1, r2) := by rw [if_pos rfl] at H; exact H
        clear H
        have H := H1
        clear H1
        have H' := Aside0.mk H
        clear H
        have hnb41 := NB548_0.out
        have hnc41 := NB0_548.out
        have hcz42_0 : w13.cell? ⟨gb548, 0, none⟩ = some (.int .i64 a3_0) := (blk_cell BK548.out 0).trans rfl
        have hcz42_1 : w13.cell? ⟨gb548, 1, none⟩ = some (.string a3_1) := (blk_cell BK548.out 1).trans rfl
        have hcz42_2 : w13.cell? ⟨gb548, 2, none⟩ = some (.int .i64 a3_2) := (blk_cell BK548.out 2).trans rfl
        have hcz42_3 : w13.cell? ⟨gb548, 3, none⟩ = some (.slice A3_3 l3_3.length c3_3) := (blk_cell BK548.out 3).trans rfl
        have hcz42_4 : w13.cell? ⟨gb548, 4, none⟩ = some (.slice A3_4 l3_4.length c3_4) := (blk_cell BK548.out 4).trans rfl
        have hcz42_5 : w13.cell? ⟨gb548, 5, none⟩ = some (.slice A3_5 l3_5.length c3_5) := (blk_cell BK548.out 5).trans rfl
        have hcz42_6 : w13.cell? ⟨gb548, 6, none⟩ = some (.string a3_6) := (blk_cell BK548.out 6).trans rfl
        have hcz42_7 : w13.cell? ⟨gb548, 7, none⟩ = some (.string a3_7) := (blk_cell BK548.out 7).trans rfl
        have hcz42_8 : w13.cell? ⟨gb548, 8, none⟩ = some (.string a3_8) := (blk_cell BK548.out 8).trans rfl
        have hcz42_9 : w13.cell? ⟨gb548, 9, none⟩ = some (.slice A3_9 l3_9.length c3_9) := (blk_cell BK548.out 9).trans rfl
        have hfz42_0 := blk_frozen BK548.out 0
        have hfz42_1 := blk_frozen BK548.out 1
        have hfz42_2 := blk_frozen BK548.out 2
        have hfz42_3 := blk_frozen BK548.out 3
        have hfz42_4 := blk_frozen BK548.out 4
        have hfz42_5 := blk_frozen BK548.out 5
        have hfz42_6 := blk_frozen BK548.out 6
        have hfz42_7 := blk_frozen BK548.out 7
        have hfz42_8 := blk_frozen BK548.out 8
        have hfz42_9 := blk_frozen BK548.out 9
        go_wp2_with (first | (go_at_call 105; (with_reducible refine (spec_isScalar.calls a3_0 true _ A39.out).mono ?_); rintro e w' ⟨rfl, ⟨nd, rfl⟩⟩))
        go_meet
        case rel => exact ⟨_, (false), (by first | rfl | (simp; done) | (simp [*]; done)), H', ⟨by first | omega | exact Nat.le_refl _⟩, ⟨by (with_reducible repeat (refine blk_drewN ?_ _)); exact BK548.out⟩, ⟨by repeat ((with_reducible first | exact HI0.out | apply IsS80.drewN ))⟩, ⟨by repeat ((with_reducible first | exact HK.out | apply keep_drewN ))⟩, ⟨by repeat ((with_reducible first | exact HB.out | apply pw_below_drewN ))⟩⟩
       ·replace c40 := Bool.eq_false_iff.mpr c40
        subst c40
        have H1 : ((spec_hasNone.f k a3_0 a3_1 a3_2 l3_3 l3_4 l3_5 a3_6 a3_7 a3_8 l3_9).bind fun t557 => (spec_reader_element.j0 k t557 t550 t551)) = some (r1, r2) := by rw [if_neg (show ¬ (false = true) by decide)] at H; exact H
        clear H
        have H := H1
        clear H1
        replace H := Option.bind_eq_some_iff.mp H
        obtain ⟨t557, A430, H⟩ := H
        replace H : (spec_reader_element.j0 k t557 t550 t551) = some (r1, r2) := H
        have A43 := Aside0.mk A430
        clear A430
        have H' := Aside0.mk H
        clear H
        have hnb44 := NB548_0.out
        have hnc44 := NB0_548.out
        have hcz45_0 : w13.cell? ⟨gb548, 0, none⟩ = some (.int .i64 a3_0) := (blk_cell BK548.out 0).trans rfl
        have hcz45_1 : w13.cell? ⟨gb548, 1, none⟩ = some (.string a3_1) := (blk_cell BK548.out 1).trans rfl
        have hcz45_2 : w13.cell? ⟨gb548, 2, none⟩ = some (.int .i64 a3_2) := (blk_cell BK548.out 2).trans rfl
        have hcz45_3 : w13.cell? ⟨gb548, 3, none⟩ = some (.slice A3_3 l3_3.length c3_3) := (blk_cell BK548.out 3).trans rfl
        have hcz45_4 : w13.cell? ⟨gb548, 4, none⟩ = some (.slice A3_4 l3_4.length c3_4) := (blk_cell BK548.out 4).trans rfl
        have hcz45_5 : w13.cell? ⟨gb548, 5, none⟩ = some (.slice A3_5 l3_5.length c3_5) := (blk_cell BK548.out 5).trans rfl
        have hcz45_6 : w13.cell? ⟨gb548, 6, none⟩ = some (.string a3_6) := (blk_cell BK548.out 6).trans rfl
        have hcz45_7 : w13.cell? ⟨gb548, 7, none⟩ = some (.string a3_7) := (blk_cell BK548.out 7).trans rfl
        have hcz45_8 : w13.cell? ⟨gb548, 8, none⟩ = some (.string a3_8) := (blk_cell BK548.out 8).trans rfl
        have hcz45_9 : w13.cell? ⟨gb548, 9, none⟩ = some (.slice A3_9 l3_9.length c3_9) := (blk_cell BK548.out 9).trans rfl
        have hfz45_0 := blk_frozen BK548.out 0
        have hfz45_1 := blk_frozen BK548.out 1
        have hfz45_2 := blk_frozen BK548.out 2
        have hfz45_3 := blk_frozen BK548.out 3
        have hfz45_4 := blk_frozen BK548.out 4
        have hfz45_5 := blk_frozen BK548.out 5
        have hfz45_6 := blk_frozen BK548.out 6
        have hfz45_7 := blk_frozen BK548.out 7
        have hfz45_8 := blk_frozen BK548.out 8
        have hfz45_9 := blk_frozen BK548.out 9
        go_wp2_with (first | (go_at_call 105; (with_reducible refine (spec_isScalar.calls a3_0 false _ A39.out).mono ?_); rintro e w' ⟨rfl, ⟨nd, rfl⟩⟩) | (go_at_call 106; (with_reducible refine (spec_hasNone.calls k a3_0 a3_1 a3_2 _ _ l3_3 _ _ l3_4 _ _ l3_5 a3_6 a3_7 a3_8 _ _ l3_9 t557 _ ?side1 ?side2 ?side3 ?side4 ?side5 ?side6 ?side7 ?side8 A43.out).mono ?_); (case side1 => exact Kd.C_keep (⟨#[]⟩ : ByteArray) HR3_3.out (by repeat ((with_reducible first | exact HK.out | apply keep_drewN ))) hf3_3); (case side2 => exact HC3_3.out); (case side3 => exact Kd.C_foot_now HR3_4.out (by repeat ((with_reducible first | exact HK.out | apply keep_drewN )))); (case side4 => exact HC3_4.out); (case side5 => exact Kd.C_keep false HR3_5.out (by repeat ((with_reducible first | exact HK.out | apply keep_drewN ))) hf3_5); (case side6 => exact HC3_5.out); (case side7 => exact Kd.C_foot_now HR3_9.out (by repeat ((with_reducible first | exact HK.out | apply keep_drewN )))); (case side8 => exact HC3_9.out); rintro e w46 ⟨rfl, hb⟩; have n0_ := Aside0.mk (IsS80.below (by repeat ((with_reducible first | exact HI0.out | apply IsS80.drewN ))) hb); have n1_ := Aside0.mk (blk_below (g := gb548) (o := .cells #[.int .i64 a3_0, .string a3_1, .int .i64 a3_2, .slice A3_3 l3_3.length c3_3, .slice A3_4 l3_4.length c3_4, .slice A3_5 l3_5.length c3_5, .string a3_6, .string a3_7, .string a3_8, .slice A3_9 l3_9.length c3_9] 28 (0, 0)) (by (with_reducible repeat (refine blk_drewN ?_ _)); exact BK548.out) hb); have n2_ := Aside0.mk (KeepBut.trans (by repeat ((with_reducible first | exact HK.out | apply keep_drewN ))) (KeepBut.of_below hb g none) (.inl rfl)); have n3_ := Aside0.mk (below_step (by repeat ((with_reducible first | exact HB.out | apply pw_below_drewN ))) hb); clear HI0; clear BK548; clear HK; clear HB; have HI0 := n0_; have BK548 := n1_; have HK := n2_; have HB := n3_; clear n0_ n1_ n2_ n3_; (try clear hb); (try clear hb2); (try clear hk); (try clear hi)))
        go_meet
        case rel => exact ⟨_, (t557), (by first | rfl | (simp; done) | (simp [*]; done)), H', ⟨by first | omega | exact Nat.le_refl _⟩, ⟨by (with_reducible repeat (fail)); exact BK548.out⟩, ⟨by repeat ((with_reducible exact HI0.out))⟩, ⟨by repeat ((with_reducible exact HK.out))⟩, ⟨by repeat ((with_reducible exact HB.out))⟩⟩
     ·rw [if_neg c35] at H
      have c35b0 : (a3_0 == 6) = false := beq_eq_false_iff_ne.mpr c35
      have c35b1 : (a3_0 != 6) = true := bne_iff_ne.mpr c35
      replace H := Option.bind_eq_some_iff.mp H
      obtain ⟨t558, A470, H⟩ := H
      replace H : (if t558 = true then (spec_reader_element.j0 k false t550 t551) else ((spec_hasNone.f k a3_0 a3_1 a3_2 l3_3 l3_4 l3_5 a3_6 a3_7 a3_8 l3_9).bind fun t559 => (spec_reader_element.j0 k t559 t550 t551))) = some (r1, r2) := H
      have A47 := Aside0.mk A470
      clear A470
      by_cases c48 : t558 = true
      ·subst c48
       have H1 : (spec_reader_element.j0 k false t550 t551) = some (r1, r2) := by rw [if_pos rfl] at H; exact H
       clear H
       have H := H1
       clear H1
       have H' := Aside0.mk H
       clear H
       have hnb49 := NB548_0.out
       have hnc49 := NB0_548.out
       have hcz50_0 : w13.cell? ⟨gb548, 0, none⟩ = some (.int .i64 a3_0) := (blk_cell BK548.out 0).trans rfl
       have hcz50_1 : w13.cell? ⟨gb548, 1, none⟩ = some (.string a3_1) := (blk_cell BK548.out 1).trans rfl
       have hcz50_2 : w13.cell? ⟨gb548, 2, none⟩ = some (.int .i64 a3_2) := (blk_cell BK548.out 2).trans rfl
       have hcz50_3 : w13.cell? ⟨gb548, 3, none⟩ = some (.slice A3_3 l3_3.length c3_3) := (blk_cell BK548.out 3).trans rfl
       have hcz50_4 : w13.cell? ⟨gb548, 4, none⟩ = some (.slice A3_4 l3_4.length c3_4) := (blk_cell BK548.out 4).trans rfl
       have hcz50_5 : w13.cell? ⟨gb548, 5, none⟩ = some (.slice A3_5 l3_5.length c3_5) := (blk_cell BK548.out 5).trans rfl
       have hcz50_6 : w13.cell? ⟨gb548, 6, none⟩ = some (.string a3_6) := (blk_cell BK548.out 6).trans rfl
       have hcz50_7 : w13.cell? ⟨gb548, 7, none⟩ = some (.string a3_7) := (blk_cell BK548.out 7).trans rfl
       have hcz50_8 : w13.cell? ⟨gb548, 8, none⟩ = some (.string a3_8) := (blk_cell BK548.out 8).trans rfl
       have hcz50_9 : w13.cell? ⟨gb548, 9, none⟩ = some (.slice A3_9 l3_9.length c3_9) := (blk_cell BK548.out 9).trans rfl
       have hfz50_0 := blk_frozen BK548.out 0
       have hfz50_1 := blk_frozen BK548.out 1
       have hfz50_2 := blk_frozen BK548.out 2
       have hfz50_3 := blk_frozen BK548.out 3
       have hfz50_4 := blk_frozen BK548.out 4
       have hfz50_5 := blk_frozen BK548.out 5
       have hfz50_6 := blk_frozen BK548.out 6
       have hfz50_7 := blk_frozen BK548.out 7
       have hfz50_8 := blk_frozen BK548.out 8
       have hfz50_9 := blk_frozen BK548.out 9
       go_wp2_with (first | (go_at_call 105; (with_reducible refine (spec_isScalar.calls a3_0 true _ A47.out).mono ?_); rintro e w' ⟨rfl, ⟨nd, rfl⟩⟩))
       go_meet
       case rel => exact ⟨_, (false), (by first | rfl | (simp; done) | (simp [*]; done)), H', ⟨by first | omega | exact Nat.le_refl _⟩, ⟨by (with_reducible repeat (refine blk_drewN ?_ _)); exact BK548.out⟩, ⟨by repeat ((with_reducible first | exact HI0.out | apply IsS80.drewN ))⟩, ⟨by repeat ((with_reducible first | exact HK.out | apply keep_drewN ))⟩, ⟨by repeat ((with_reducible first | exact HB.out | apply pw_below_drewN ))⟩⟩
      ·replace c48 := Bool.eq_false_iff.mpr c48
       subst c48
       have H1 : ((spec_hasNone.f k a3_0 a3_1 a3_2 l3_3 l3_4 l3_5 a3_6 a3_7 a3_8 l3_9).bind fun t559 => (spec_reader_element.j0 k t559 t550 t551)) = some (r1, r2) := by rw [if_neg (show ¬ (false = true) by decide)] at H; exact H
       clear H
       have H := H1
       clear H1
       replace H := Option.bind_eq_some_iff.mp H
       obtain ⟨t559, A510, H⟩ := H
       replace H : (spec_reader_element.j0 k t559 t550 t551) = some (r1, r2) := H
       have A51 := Aside0.mk A510
       clear A510
       have H' := Aside0.mk H
       clear H
       have hnb52 := NB548_0.out
       have hnc52 := NB0_548.out
       have hcz53_0 : w13.cell? ⟨gb548, 0, none⟩ = some (.int .i64 a3_0) := (blk_cell BK548.out 0).trans rfl
       have hcz53_1 : w13.cell? ⟨gb548, 1, none⟩ = some (.string a3_1) := (blk_cell BK548.out 1).trans rfl
       have hcz53_2 : w13.cell? ⟨gb548, 2, none⟩ = some (.int .i64 a3_2) := (blk_cell BK548.out 2).trans rfl
       have hcz53_3 : w13.cell? ⟨gb548, 3, none⟩ = some (.slice A3_3 l3_3.length c3_3) := (blk_cell BK548.out 3).trans rfl
       have hcz53_4 : w13.cell? ⟨gb548, 4, none⟩ = some (.slice A3_4 l3_4.length c3_4) := (blk_cell BK548.out 4).trans rfl
       have hcz53_5 : w13.cell? ⟨gb548, 5, none⟩ = some (.slice A3_5 l3_5.length c3_5) := (blk_cell BK548.out 5).trans rfl
       have hcz53_6 : w13.cell? ⟨gb548, 6, none⟩ = some (.string a3_6) := (blk_cell BK548.out 6).trans rfl
       have hcz53_7 : w13.cell? ⟨gb548, 7, none⟩ = some (.string a3_7) := (blk_cell BK548.out 7).trans rfl
       have hcz53_8 : w13.cell? ⟨gb548, 8, none⟩ = some (.string a3_8) := (blk_cell BK548.out 8).trans rfl
       have hcz53_9 : w13.cell? ⟨gb548, 9, none⟩ = some (.slice A3_9 l3_9.length c3_9) := (blk_cell BK548.out 9).trans rfl
       have hfz53_0 := blk_frozen BK548.out 0
       have hfz53_1 := blk_frozen BK548.out 1
       have hfz53_2 := blk_frozen BK548.out 2
       have hfz53_3 := blk_frozen BK548.out 3
       have hfz53_4 := blk_frozen BK548.out 4
       have hfz53_5 := blk_frozen BK548.out 5
       have hfz53_6 := blk_frozen BK548.out 6
       have hfz53_7 := blk_frozen BK548.out 7
       have hfz53_8 := blk_frozen BK548.out 8
       have hfz53_9 := blk_frozen BK548.out 9
       go_wp2_with (first | (go_at_call 105; (with_reducible refine (spec_isScalar.calls a3_0 false _ A47.out).mono ?_); rintro e w' ⟨rfl, ⟨nd, rfl⟩⟩) | (go_at_call 106; (with_reducible refine (spec_hasNone.calls k a3_0 a3_1 a3_2 _ _ l3_3 _ _ l3_4 _ _ l3_5 a3_6 a3_7 a3_8 _ _ l3_9 t559 _ ?side1 ?side2 ?side3 ?side4 ?side5 ?side6 ?side7 ?side8 A51.out).mono ?_); (case side1 => exact Kd.C_keep (⟨#[]⟩ : ByteArray) HR3_3.out (by repeat ((with_reducible first | exact HK.out | apply keep_drewN ))) hf3_3); (case side2 => exact HC3_3.out); (case side3 => exact Kd.C_foot_now HR3_4.out (by repeat ((with_reducible first | exact HK.out | apply keep_drewN )))); (case side4 => exact HC3_4.out); (case side5 => exact Kd.C_keep false HR3_5.out (by repeat ((with_reducible first | exact HK.out | apply keep_drewN ))) hf3_5); (case side6 => exact HC3_5.out); (case side7 => exact Kd.C_foot_now HR3_9.out (by repeat ((with_reducible first | exact HK.out | apply keep_drewN )))); (case side8 => exact HC3_9.out); rintro e w54 ⟨rfl, hb⟩; have n0_ := Aside0.mk (IsS80.below (by repeat ((with_reducible first | exact HI0.out | apply IsS80.drewN ))) hb); have n1_ := Aside0.mk (blk_below (g := gb548) (o := .cells #[.int .i64 a3_0, .string a3_1, .int .i64 a3_2, .slice A3_3 l3_3.length c3_3, .slice A3_4 l3_4.length c3_4, .slice A3_5 l3_5.length c3_5, .string a3_6, .string a3_7, .string a3_8, .slice A3_9 l3_9.length c3_9] 28 (0, 0)) (by (with_reducible repeat (refine blk_drewN ?_ _)); exact BK548.out) hb); have n2_ := Aside0.mk (KeepBut.trans (by repeat ((with_reducible first | exact HK.out | apply keep_drewN ))) (KeepBut.of_below hb g none) (.inl rfl)); have n3_ := Aside0.mk (below_step (by repeat ((with_reducible first | exact HB.out | apply pw_below_drewN ))) hb); clear HI0; clear BK548; clear HK; clear HB; have HI0 := n0_; have BK548 := n1_; have HK := n2_; have HB := n3_; clear n0_ n1_ n2_ n3_; (try clear hb); (try clear hb2); (try clear hk); (try clear hi)))
       go_meet
       case rel => exact ⟨_, (t559), (by first | rfl | (simp; done) | (simp [*]; done)), H', ⟨by first | omega | exact Nat.le_refl _⟩, ⟨by (with_reducible repeat (fail)); exact BK548.out⟩, ⟨by repeat ((with_reducible exact HI0.out))⟩, ⟨by repeat ((with_reducible exact HK.out))⟩, ⟨by repeat ((with_reducible exact HB.out))⟩⟩
   case rest =>
    clear HC10
    try clear c1
    try clear c2
    try clear p2
    try clear c3
    try clear c4
    try clear c5
    try clear c9
    try clear c10
    try clear c14
    try clear c14b0
    try clear c14b1
    try clear c15
    try clear c15b0
    try clear c15b1
    try clear c16
    try clear c18
    try clear c18b0
    try clear c18b1
    try clear c20
    try clear c21
    try clear c24
    try clear c28
    try clear c29
    try clear c32
    try clear c35
    try clear c35b0
    try clear c35b1
    try clear c36
    try clear c36b0
    try clear c36b1
    try clear c37
    try clear c40
    try clear c41
    try clear c42
    try clear c44
    try clear c48
    try clear c49
    try clear c52
    try clear hcz12_0
    try clear hcz12_1
    try clear hcz17_0
    try clear hcz17_1
    try clear hcz17_2
    try clear hcz17_3
    try clear hcz17_4
    try clear hcz17_5
    try clear hcz17_6
    try clear hcz17_7
    try clear hcz17_8
    try clear hcz17_9
    try clear hcz22_0
    try clear hcz22_1
    try clear hcz22_2
    try clear hcz22_3
    try clear hcz22_4
    try clear hcz22_5
    try clear hcz22_6
    try clear hcz22_7
    try clear hcz22_8
    try clear hcz22_9
    try clear hcz25_0
    try clear hcz25_1
    try clear hcz25_2
    try clear hcz25_3
    try clear hcz25_4
    try clear hcz25_5
    try clear hcz25_6
    try clear hcz25_7
    try clear hcz25_8
    try clear hcz25_9
    try clear hcz30_0
    try clear hcz30_1
    try clear hcz30_2
    try clear hcz30_3
    try clear hcz30_4
    try clear hcz30_5
    try clear hcz30_6
    try clear hcz30_7
    try clear hcz30_8
    try clear hcz30_9
    try clear hcz33_0
    try clear hcz33_1
    try clear hcz33_2
    try clear hcz33_3
    try clear hcz33_4
    try clear hcz33_5
    try clear hcz33_6
    try clear hcz33_7
    try clear hcz33_8
    try clear hcz33_9
    try clear hcz38_0
    try clear hcz38_1
    try clear hcz38_2
    try clear hcz38_3
    try clear hcz38_4
    try clear hcz38_5
    try clear hcz38_6
    try clear hcz38_7
    try clear hcz38_8
    try clear hcz38_9
    try clear hcz42_0
    try clear hcz42_1
    try clear hcz42_2
    try clear hcz42_3
    try clear hcz42_4
    try clear hcz42_5
    try clear hcz42_6
    try clear hcz42_7
    try clear hcz42_8
    try clear hcz42_9
    try clear hcz45_0
    try clear hcz45_1
    try clear hcz45_2
    try clear hcz45_3
    try clear hcz45_4
    try clear hcz45_5
    try clear hcz45_6
    try clear hcz45_7
    try clear hcz45_8
    try clear hcz45_9
    try clear hcz50_0
    try clear hcz50_1
    try clear hcz50_2
    try clear hcz50_3
    try clear hcz50_4
    try clear hcz50_5
    try clear hcz50_6
    try clear hcz50_7
    try clear hcz50_8
    try clear hcz50_9
    try clear hcz53_0
    try clear hcz53_1
    try clear hcz53_2
    try clear hcz53_3
    try clear hcz53_4
    try clear hcz53_5
    try clear hcz53_6
    try clear hcz53_7
    try clear hcz53_8
    try clear hcz53_9
    try clear hcz7_0
    try clear hcz7_1
    try clear hfz12_0
    try clear hfz12_1
    try clear hfz17_0
    try clear hfz17_1
    try clear hfz17_2
    try clear hfz17_3
    try clear hfz17_4
    try clear hfz17_5
    try clear hfz17_6
    try clear hfz17_7
    try clear hfz17_8
    try clear hfz17_9
    try clear hfz22_0
    try clear hfz22_1
    try clear hfz22_2
    try clear hfz22_3
    try clear hfz22_4
    try clear hfz22_5
    try clear hfz22_6
    try clear hfz22_7
    try clear hfz22_8
    try clear hfz22_9
    try clear hfz25_0
    try clear hfz25_1
    try clear hfz25_2
    try clear hfz25_3
    try clear hfz25_4
    try clear hfz25_5
    try clear hfz25_6
    try clear hfz25_7
    try clear hfz25_8
    try clear hfz25_9
    try clear hfz30_0
    try clear hfz30_1
    try clear hfz30_2
    try clear hfz30_3
    try clear hfz30_4
    try clear hfz30_5
    try clear hfz30_6
    try clear hfz30_7
    try clear hfz30_8
    try clear hfz30_9
    try clear hfz33_0
    try clear hfz33_1
    try clear hfz33_2
    try clear hfz33_3
    try clear hfz33_4
    try clear hfz33_5
    try clear hfz33_6
    try clear hfz33_7
    try clear hfz33_8
    try clear hfz33_9
    try clear hfz38_0
    try clear hfz38_1
    try clear hfz38_2
    try clear hfz38_3
    try clear hfz38_4
    try clear hfz38_5
    try clear hfz38_6
    try clear hfz38_7
    try clear hfz38_8
    try clear hfz38_9
    try clear hfz42_0
    try clear hfz42_1
    try clear hfz42_2
    try clear hfz42_3
    try clear hfz42_4
    try clear hfz42_5
    try clear hfz42_6
    try clear hfz42_7
    try clear hfz42_8
    try clear hfz42_9
    try clear hfz45_0
    try clear hfz45_1
    try clear hfz45_2
    try clear hfz45_3
    try clear hfz45_4
    try clear hfz45_5
    try clear hfz45_6
    try clear hfz45_7
    try clear hfz45_8
    try clear hfz45_9
    try clear hfz50_0
    try clear hfz50_1
    try clear hfz50_2
    try clear hfz50_3
    try clear hfz50_4
    try clear hfz50_5
    try clear hfz50_6
    try clear hfz50_7
    try clear hfz50_8
    try clear hfz50_9
    try clear hfz53_0
    try clear hfz53_1
    try clear hfz53_2
    try clear hfz53_3
    try clear hfz53_4
    try clear hfz53_5
    try clear hfz53_6
    try clear hfz53_7
    try clear hfz53_8
    try clear hfz53_9
    try clear hfz7_0
    try clear hfz7_1
    obtain ⟨kq, x43_9, rfl, HA, HJ9, BK548, HI0, HK, HB⟩ := hcut
    cases kq with
    | zero => exact absurd HA.out (by simp [spec_reader_element.j0])
    | succ kj9 =>
      have H := HA.out
      clear HA
      simp only [spec_reader_element.j0] at H
      by_cases c55 : x43_9 = true
      ·subst c55
       have H1 : (some (t550, t551)) = some (r1, r2) := by rw [if_pos rfl] at H; exact H
       clear H
       have H := H1
       clear H1
       simp only [Option.some.injEq, Prod.mk.injEq] at H
       obtain ⟨rfl, rfl⟩ := H
       go_wp2
       ((try simp only [Exit.inBlock, Exit.then]); refine bodyPost_ret (results_none rfl _ _ _) rfl ?_)
       exact ⟨by rfl, by repeat ((with_reducible exact HI0.out)), by repeat ((with_reducible exact HB.out)), by repeat ((with_reducible exact HK.out))⟩
      ·replace c55 := Bool.eq_false_iff.mpr c55
       subst c55
       have H1 : (some (t550, true)) = some (r1, r2) := by rw [if_neg (show ¬ (false = true) by decide)] at H; exact H
       clear H
       have H := H1
       clear H1
       simp only [Option.some.injEq, Prod.mk.injEq] at H
       obtain ⟨rfl, rfl⟩ := H
       obtain ⟨HGz56, hgz56⟩ := HI0.out
       have hcz56_0 := cellS80_0 HGz56
       have hcz56_1 := cellS80_1 HGz56
       have hfz56_0 := blk_frozen HGz56 0
       have hfz56_1 := blk_frozen HGz56 1
       clear HGz56 hgz56
       go_wp2
       ((try simp only [Exit.inBlock, Exit.then]); refine bodyPost_ret (results_none rfl _ _ _) rfl ?_)
       exact ⟨by rfl, by repeat ((with_reducible first | exact HI0.out | apply IsS80.set_1 )), by repeat ((with_reducible first | exact HB.out | refine below_set ?_ (IsS80.ge HI0.out) )), by repeat ((with_reducible first | exact HK.out | apply KeepBut.set_ ))⟩
  ·replace c9 := Bool.eq_false_iff.mpr c9
   subst c9
   have H1 : ((spec_reader_content.f k t550 t551 a3_0 a3_1 a3_2 l3_3 l3_4 l3_5 a3_6 a3_7 a3_8 l3_9).bind fun bt560 => (if 2 + a1.size ≤ 9223372036854775807 then (if ((⟨#[60, 47]⟩ : ByteArray) ++ a1).size + 1 ≤ 9223372036854775807 then ((spec_reader_want.f bt560.1 bt560.2 (((⟨#[60, 47]⟩ : ByteArray) ++ a1) ++ (⟨#[62]⟩ : ByteArray))).bind fun bt562 => (some (bt562.1, bt562.2))) else (none)) else (none))) = some (r1, r2) := by rw [if_neg (show ¬ (false = true) by decide)] at H; exact H
   clear H
   have H := H1
   clear H1
   replace H := Option.bind_eq_some_iff.mp H
   obtain ⟨⟨t560, t561⟩, A570, H⟩ := H
   replace H : (if 2 + a1.size ≤ 9223372036854775807 then (if ((⟨#[60, 47]⟩ : ByteArray) ++ a1).size + 1 ≤ 9223372036854775807 then ((spec_reader_want.f t560 t561 (((⟨#[60, 47]⟩ : ByteArray) ++ a1) ++ (⟨#[62]⟩ : ByteArray))).bind fun bt562 => (some (bt562.1, bt562.2))) else (none)) else (none)) = some (r1, r2) := H
   have A57 := Aside0.mk A570
   clear A570
   by_cases c58 : 2 + a1.size ≤ 9223372036854775807
   ·rw [if_pos c58] at H
    have c58b0 := eq_true c58
    have c58b1 : decide (2 + a1.size ≤ 9223372036854775807) = true := decide_eq_true c58
    try have c58b2 : (9223372036854775807 < 2 + a1.size) = False := eq_false (Nat.not_lt.2 c58)
    by_cases c59 : ((⟨#[60, 47]⟩ : ByteArray) ++ a1).size + 1 ≤ 9223372036854775807
    ·rw [if_pos c59] at H
     have c59b0 := eq_true c59
     have c59z : (2 + a1.size + 1 ≤ 9223372036854775807) = True := eq_true (by have h_ := c59; rw [ByteArray.size_append] at h_; exact h_)
     have c59y : (9223372036854775807 < 2 + a1.size + 1) = False := eq_false (by have h_ := c59; rw [ByteArray.size_append] at h_; exact Nat.not_lt.2 h_)
     have c59b1 : decide (((⟨#[60, 47]⟩ : ByteArray) ++ a1).size + 1 ≤ 9223372036854775807) = true := decide_eq_true c59
     try have c59b2 : (9223372036854775807 < ((⟨#[60, 47]⟩ : ByteArray) ++ a1).size + 1) = False := eq_false (Nat.not_lt.2 c59)
     replace H := Option.bind_eq_some_iff.mp H
     obtain ⟨⟨t562, t563⟩, A600, H⟩ := H
     replace H : (some (t562, t563)) = some (r1, r2) := H
     have A60 := Aside0.mk A600
     clear A600
     simp only [Option.some.injEq, Prod.mk.injEq] at H
     obtain ⟨rfl, rfl⟩ := H
     go_enter Tryz.func42, Tryz.ntmps42
     go_wp2_with (first | ((with_reducible refine gate_dst (N := 7) rfl ?_); refine box_event ?hg (N := 7) ?hd (cs := #[.int .i64 a3_0, .string a3_1, .int .i64 a3_2, .slice A3_3 l3_3.length c3_3, .slice A3_4 l3_4.length c3_4, .slice A3_5 l3_5.length c3_5, .string a3_6, .string a3_7, .string a3_8, .slice A3_9 l3_9.length c3_9]) (t := 28) ?hr ?_; (case hd => rfl); (case hg => rfl); (case hr => first | (go_simp; done) | (go_simp; rfl)); intro gb548 hg w61 hbox hb; have n0_ := Aside0.mk (IsS80.below (by repeat ((with_reducible exact HI0.out))) hb); have n1_ := Aside0.mk (KeepBut.trans (by repeat ((with_reducible exact HK.out))) (KeepBut.of_below hb g none) (.inl rfl)); have n2_ := Aside0.mk (below_step (by repeat ((with_reducible exact HB.out))) hb); have n3_ := Aside0.mk (hbox); have n4_ := Aside0.mk ((by rw [hg]; exact (keep_size (w := w) (g := g) (row := none) (by repeat ((with_reducible exact HK.out)))) : w.heap.size ≤ gb548)); have n5_ := Aside0.mk ((Nat.le_trans HW0.out (by rw [hg]; exact (keep_size (w := w) (g := g) (row := none) (by repeat ((with_reducible exact HK.out)))) : w.heap.size ≤ gb548) : w0.heap.size ≤ gb548)); have n6_ := Aside0.mk ((by rw [hg]; exact Nat.ne_of_lt (IsS80.lt (show IsS80 w0 _ g s0_0 false from by repeat ((with_reducible exact HI0.out)))) : g ≠ gb548)); have n7_ := Aside0.mk ((by rw [hg]; exact Nat.ne_of_gt (IsS80.lt (show IsS80 w0 _ g s0_0 false from by repeat ((with_reducible exact HI0.out)))) : gb548 ≠ g)); clear HI0; clear HK; clear HB; have HI0 := n0_; have HK := n1_; have HB := n2_; have BK548 := n3_; have GW548 := n4_; have GE548 := n5_; have NB0_548 := n6_; have NB548_0 := n7_; clear n0_ n1_ n2_ n3_ n4_ n5_ n6_ n7_; clear hb hbox hg; obtain ⟨HGz62, hgz62⟩ := HI0.out; have hcz62_0 := cellS80_0 HGz62; have hcz62_1 := cellS80_1 HGz62; have hfz62_0 := blk_frozen HGz62 0; have hfz62_1 := blk_frozen HGz62 1; clear HGz62 hgz62) | ((with_reducible refine gate_callee (f := 104) rfl ?_); refine goesL_ (some 15) rfl rfl Tryz.func104 (by kernel_rfl) rfl #[.pointer (some ⟨g, 0, none⟩), .string a1, .slice A2 l2.length c2] rfl (by (try simp only [List.map_toArray, List.map_cons, List.map_nil]); rfl) ?_; (with_reducible refine (spec_reader_start.calls k g s0_0 false a1 _ _ l2 false t550 t551 w0 _ ?side1 ?side2 ?side3 ?side4 A8.out).mono ?_); (case side1 => repeat ((with_reducible exact HI0.out))); (case side2 => repeat ((with_reducible exact HB.out))); (case side3 => exact Kd.C_foot_step HR2.out (by repeat ((with_reducible exact HK.out)))); (case side4 => exact HC2.out); rintro e w63 ⟨rfl, hi, hb, hk⟩; refine ⟨_, rfl, ?_⟩; have n0_ := Aside0.mk (KeepBut.blk hk (g' := gb548) (o := .cells #[.int .i64 a3_0, .string a3_1, .int .i64 a3_2, .slice A3_3 l3_3.length c3_3, .slice A3_4 l3_4.length c3_4, .slice A3_5 l3_5.length c3_5, .string a3_6, .string a3_7, .string a3_8, .slice A3_9 l3_9.length c3_9] 28 (0, 0)) (by (with_reducible repeat (fail)); exact BK548.out) NB548_0.out (by simp)); have n1_ := Aside0.mk (KeepBut.trans (by repeat ((with_reducible exact HK.out))) hk (.inl rfl)); have n2_ := Aside0.mk (hb); have n3_ := Aside0.mk (hi); clear BK548; clear HK; clear HB; clear HI0; have BK548 := n0_; have HK := n1_; have HB := n2_; have HI0 := n3_; clear n0_ n1_ n2_ n3_; (try clear hb); (try clear hb2); (try clear hk); (try clear hi); have hnb64 := NB548_0.out; have hnc64 := NB0_548.out; have hcz65_0 : w63.cell? ⟨gb548, 0, none⟩ = some (.int .i64 a3_0) := (blk_cell BK548.out 0).trans rfl; have hcz65_1 : w63.cell? ⟨gb548, 1, none⟩ = some (.string a3_1) := (blk_cell BK548.out 1).trans rfl; have hcz65_2 : w63.cell? ⟨gb548, 2, none⟩ = some (.int .i64 a3_2) := (blk_cell BK548.out 2).trans rfl; have hcz65_3 : w63.cell? ⟨gb548, 3, none⟩ = some (.slice A3_3 l3_3.length c3_3) := (blk_cell BK548.out 3).trans rfl; have hcz65_4 : w63.cell? ⟨gb548, 4, none⟩ = some (.slice A3_4 l3_4.length c3_4) := (blk_cell BK548.out 4).trans rfl; have hcz65_5 : w63.cell? ⟨gb548, 5, none⟩ = some (.slice A3_5 l3_5.length c3_5) := (blk_cell BK548.out 5).trans rfl; have hcz65_6 : w63.cell? ⟨gb548, 6, none⟩ = some (.string a3_6) := (blk_cell BK548.out 6).trans rfl; have hcz65_7 : w63.cell? ⟨gb548, 7, none⟩ = some (.string a3_7) := (blk_cell BK548.out 7).trans rfl; have hcz65_8 : w63.cell? ⟨gb548, 8, none⟩ = some (.string a3_8) := (blk_cell BK548.out 8).trans rfl; have hcz65_9 : w63.cell? ⟨gb548, 9, none⟩ = some (.slice A3_9 l3_9.length c3_9) := (blk_cell BK548.out 9).trans rfl; have hfz65_0 := blk_frozen BK548.out 0; have hfz65_1 := blk_frozen BK548.out 1; have hfz65_2 := blk_frozen BK548.out 2; have hfz65_3 := blk_frozen BK548.out 3; have hfz65_4 := blk_frozen BK548.out 4; have hfz65_5 := blk_frozen BK548.out 5; have hfz65_6 := blk_frozen BK548.out 6; have hfz65_7 := blk_frozen BK548.out 7; have hfz65_8 := blk_frozen BK548.out 8; have hfz65_9 := blk_frozen BK548.out 9) | ((with_reducible refine gate_callee (f := 107) rfl ?_); refine goesL_ (some 49) rfl rfl Tryz.func107 (by kernel_rfl) rfl #[.pointer (some ⟨g, 0, none⟩), .agg #[.int .i64 a3_0, .string a3_1, .int .i64 a3_2, .slice A3_3 l3_3.length c3_3, .slice A3_4 l3_4.length c3_4, .slice A3_5 l3_5.length c3_5, .string a3_6, .string a3_7, .string a3_8, .slice A3_9 l3_9.length c3_9]] rfl (by (try simp only [List.map_toArray, List.map_cons, List.map_nil]); rfl) ?_; (with_reducible refine (spec_reader_content.calls k g t550 t551 a3_0 a3_1 a3_2 _ _ l3_3 _ _ l3_4 _ _ l3_5 a3_6 a3_7 a3_8 _ _ l3_9 t560 t561 w0 _ ?side1 ?side2 ?side3 ?side4 ?side5 ?side6 ?side7 ?side8 ?side9 ?side10 ?side11 ?side12 A57.out).mono ?_); (case side1 => repeat ((with_reducible exact HI0.out))); (case side2 => repeat ((with_reducible exact HB.out))); (case side3 => exact Kd.C_keep (⟨#[]⟩ : ByteArray) HR3_3.out (by repeat ((with_reducible exact HK.out))) hf3_3); (case side4 => exact HC3_3.out); (case side5 => exact hf3_3); (case side6 => exact Kd.C_foot_step HR3_4.out (by repeat ((with_reducible exact HK.out)))); (case side7 => exact HC3_4.out); (case side8 => exact Kd.C_keep false HR3_5.out (by repeat ((with_reducible exact HK.out))) hf3_5); (case side9 => exact HC3_5.out); (case side10 => exact hf3_5); (case side11 => exact Kd.C_foot_step HR3_9.out (by repeat ((with_reducible exact HK.out)))); (case side12 => exact HC3_9.out); rintro e w66 ⟨rfl, hi, hb, hk⟩; refine ⟨_, rfl, ?_⟩; have n0_ := Aside0.mk (KeepBut.blk hk (g' := gb548) (o := .cells #[.int .i64 a3_0, .string a3_1, .int .i64 a3_2, .slice A3_3 l3_3.length c3_3, .slice A3_4 l3_4.length c3_4, .slice A3_5 l3_5.length c3_5, .string a3_6, .string a3_7, .string a3_8, .slice A3_9 l3_9.length c3_9] 28 (0, 0)) (by (with_reducible repeat (fail)); exact BK548.out) NB548_0.out (by simp)); have n1_ := Aside0.mk (KeepBut.trans (by repeat ((with_reducible exact HK.out))) hk (.inl rfl)); have n2_ := Aside0.mk (hb); have n3_ := Aside0.mk (hi); clear BK548; clear HK; clear HB; clear HI0; have BK548 := n0_; have HK := n1_; have HB := n2_; have HI0 := n3_; clear n0_ n1_ n2_ n3_; (try clear hb); (try clear hb2); (try clear hk); (try clear hi)) | ((with_reducible refine gate_callee (f := 108) rfl ?_); refine goesL_ (some 54) rfl rfl Tryz.func108 (by kernel_rfl) rfl #[.pointer (some ⟨g, 0, none⟩), .string (((⟨#[60, 47]⟩ : ByteArray) ++ a1) ++ (⟨#[62]⟩ : ByteArray))] rfl (by (try simp only [List.map_toArray, List.map_cons, List.map_nil]); rfl) ?_; (with_reducible refine (spec_reader_want.calls g t560 t561 (((⟨#[60, 47]⟩ : ByteArray) ++ a1) ++ (⟨#[62]⟩ : ByteArray)) t562 t563 w0 _ ?side1 ?side2 A60.out).mono ?_); (case side1 => repeat ((with_reducible exact HI0.out))); (case side2 => repeat ((with_reducible exact HB.out))); rintro e w67 ⟨rfl, hi, hb, hk⟩; refine ⟨_, rfl, ?_⟩; have n0_ := Aside0.mk (KeepBut.blk hk (g' := gb548) (o := .cells #[.int .i64 a3_0, .string a3_1, .int .i64 a3_2, .slice A3_3 l3_3.length c3_3, .slice A3_4 l3_4.length c3_4, .slice A3_5 l3_5.length c3_5, .string a3_6, .string a3_7, .string a3_8, .slice A3_9 l3_9.length c3_9] 28 (0, 0)) (by (with_reducible repeat (fail)); exact BK548.out) NB548_0.out (by simp)); have n1_ := Aside0.mk (KeepBut.trans (by repeat ((with_reducible exact HK.out))) hk (.inl rfl)); have n2_ := Aside0.mk (hb); have n3_ := Aside0.mk (hi); clear BK548; clear HK; clear HB; clear HI0; have BK548 := n0_; have HK := n1_; have HB := n2_; have HI0 := n3_; clear n0_ n1_ n2_ n3_; (try clear hb); (try clear hb2); (try clear hk); (try clear hi)))
     go_end0
     exact ⟨by rfl, by repeat ((with_reducible exact HI0.out)), by repeat ((with_reducible exact HB.out)), by repeat ((with_reducible exact HK.out))⟩
    ·rw [if_neg c59] at H
     exact absurd H (by simp)
   ·rw [if_neg c58] at H
    exact absurd H (by simp)

end Go.Proofs.YtkihaebaccdjdaaGreatDoor.PX
