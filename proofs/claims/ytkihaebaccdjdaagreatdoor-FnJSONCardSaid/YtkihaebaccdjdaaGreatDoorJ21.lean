import Derived.Test.YtkihaebaccdjdaaGreatDoorJ4
import Derived.Test.YtkihaebaccdjdaaGreatDoorJ20
namespace Go.Proofs.YtkihaebaccdjdaaGreatDoor.PX
open Go.RowKit Go.Proofs.YtkihaebaccdjdaaGreatDoorW.PrintWords Go.Proofs.YtkihaebaccdjdaaGreatDoorW.PrintLast Go.Proofs.YtkihaebaccdjdaaGreatDoorW.PrintMore
attribute [local go_sem] max2_int min2_int max_two min_two max_three min_three max_four min_four   -- for this text's walks alone
set_option linter.unusedVariables false
set_option linter.unusedSimpArgs false

/-! ### spec_Begins: function 58 -/
def spec_Begins.f (a0 : ByteArray) (a1 : ByteArray) : Option (Bool) := if (a0.size : Int) ≥ (a1.size : Int) then (if 0 ≤ (a1.size : Int) then (if (a1.size : Int) ≤ (a0.size : Int) then (some ((a0.extract 0 ((a1.size : Int) : Int).toNat).toList == a1.toList)) else (none)) else (none)) else (some false)
set_option maxHeartbeats 8000000 in
set_option maxRecDepth 100000 in
theorem spec_Begins.calls (a0 : ByteArray) (a1 : ByteArray) (r : Bool) (w : World) (h : spec_Begins.f a0 a1 = some r) :
 Calls Tryz.prog 58 #[.string a0, .string a1] w fun e w' => e = .returned (.bool r) ∧ Drawn0 w w' := by
 have H : (if (a0.size : Int) ≥ (a1.size : Int) then (if 0 ≤ (a1.size : Int) then (if (a1.size : Int) ≤ (a0.size : Int) then (some ((a0.extract 0 ((a1.size : Int) : Int).toNat).toList == a1.toList)) else (none)) else (none)) else (some false)) = some r := h
 clear h
 by_cases c3 : (a0.size : Int) ≥ (a1.size : Int)
 ·rw [if_pos c3] at H
  have c3b0 : decide ((a1.size : Int) ≤ (a0.size : Int)) = true := decide_eq_true c3
  have c3b1 : decide (a1.size ≤ a0.size) = true := decide_eq_true (Int.ofNat_le.mp c3)
  clear c3
  by_cases c4 : 0 ≤ (a1.size : Int)
  ·rw [if_pos c4] at H
   have c4b0 := eq_true c4
   have c4b1 : decide (0 ≤ (a1.size : Int)) = true := decide_eq_true c4
   clear c4
   by_cases c5 : (a1.size : Int) ≤ (a0.size : Int)
   ·rw [if_pos c5] at H
    have c5b0 := eq_true c5
    have c5b1 : decide ((a1.size : Int) ≤ (a0.size : Int)) = true := decide_eq_true c5
    clear c5
    obtain rfl := Option.some.inj H
    go_enter Tryz.func58, Tryz.ntmps58
    go_wp2
    go_ret
    exact ⟨by first | rfl | (simp; done) | (simp [*]; done), by repeat (first | exact Drawn0.refl _ | apply Drawn0.step)⟩
   ·rw [if_neg c5] at H
    exact absurd H (by simp)
  ·rw [if_neg c4] at H
   exact absurd H (by simp)
 ·rw [if_neg c3] at H
  have c3b0 : decide ((a1.size : Int) ≤ (a0.size : Int)) = false := decide_eq_false c3
  have c3b1 : decide (a1.size ≤ a0.size) = false := decide_eq_false (fun h => c3 (Int.ofNat_le.mpr h))
  clear c3
  obtain rfl := Option.some.inj H
  go_enter Tryz.func58, Tryz.ntmps58
  go_wp2
  go_ret
  exact ⟨by first | rfl | (simp; done) | (simp [*]; done), by repeat (first | exact Drawn0.refl _ | apply Drawn0.step)⟩

end Go.Proofs.YtkihaebaccdjdaaGreatDoor.PX
set_option linter.unusedVariables false
set_option linter.unusedSimpArgs false
namespace Go.Proofs.YtkihaebaccdjdaaGreatDoor.PX
open Go.RowKit Go.Proofs.YtkihaebaccdjdaaGreatDoorW.PrintWords Go.Proofs.YtkihaebaccdjdaaGreatDoorW.PrintLast Go.Proofs.YtkihaebaccdjdaaGreatDoorW.PrintMore
/-! ### spec.reader.take, function 149 -/
def spec_reader_take.f (s0_0 : ByteArray) (s0_1 : Bool) (a1 : ByteArray) : Option (Bool × ByteArray × Bool) :=
 if a1.size ≤ s0_0.size ∧ (s0_0.extract 0 a1.size).toList = a1.toList then some (true, s0_0.extract a1.size s0_0.size, s0_1) else some (false, s0_0, s0_1)
set_option maxHeartbeats 2000000 in
set_option maxRecDepth 100000 in
theorem spec_reader_take.calls (g : Nat) (s0_0 : ByteArray) (s0_1 : Bool) (a1 : ByteArray) (r1 : Bool) (r2 : ByteArray) (r3 : Bool) (w0 w : World) (hI : IsS80 w0 w g s0_0 s0_1) (hB : Below w0.heap.size w0 w) (h : spec_reader_take.f s0_0 s0_1 a1 = some (r1, r2, r3)) :
 Calls Tryz.prog 149 #[.pointer (some ⟨g, 0, none⟩), .string a1] w fun e w' => e = .returned (.bool r1) ∧ IsS80 w0 w' g r2 r3 ∧ Below w0.heap.size w0 w' ∧ KeepBut w w' g none := by
 have c0 := cellS80_0 hI.1; have c1 := cellS80_1 hI.1
 have hI0 := Aside0.mk hI; have hB0 := Aside0.mk hB
 clear hI hB
 by_cases hc : a1.size ≤ s0_0.size ∧ (s0_0.extract 0 a1.size).toList = a1.toList
 ·have hb : spec_Begins.f s0_0 a1 = some true := by
   unfold spec_Begins.f
   rw [if_pos (by omega), if_pos (by omega), if_pos (by omega), Int.toNat_natCast, hc.2]
   simp
  have hsl : ∀ w : World, (Instr.slice 9 (.string s0_0) (some (.int .i64 (a1.size : Int))) none none).run Tryz.prog w = .ok (.string (s0_0.extract a1.size s0_0.size)) w := fun w => by
   rw [run_slice_string_from_if w 9 s0_0 .i64 (a1.size : Int) Tryz.underlying9, if_pos (by omega), Int.toNat_natCast]
  unfold spec_reader_take.f at h
  rw [if_pos hc] at h
  simp only [Option.some.injEq, Prod.mk.injEq] at h
  obtain ⟨rfl, rfl, rfl⟩ := h
  have hcall := Aside0.mk (spec_Begins.calls s0_0 a1 true w hb)
  clear hb hc
  go_enter Tryz.func149, Tryz.ntmps149
  go_wp2_with fail
  refine hcall.out.mono ?_
  rintro e w1 ⟨rfl, hd⟩
  have hI1 := hI0.out.below hd.below
  have hK1 := Aside0.mk (KeepBut.of_below hd.below g none)
  have hB1 := Aside0.mk (below_then hB0.out hB0.out.size hd.below)
  have d0 := cellS80_0 hI1.1; have d1 := cellS80_1 hI1.1
  have f0 := blk_frozen hI1.1 0; have f1 := blk_frozen hI1.1 1
  replace hI1 := Aside0.mk hI1
  clear hd hcall c0 c1
  go_wp2
  go_ret
  exact ⟨rfl, hI1.out.set_0 _, below_set hB1.out (IsS80.ge hI1.out), hK1.out.set_ 0 _⟩
 ·have hb : spec_Begins.f s0_0 a1 = some false := by
   unfold spec_Begins.f
   by_cases hle : a1.size ≤ s0_0.size
   ·have hne : ((s0_0.extract 0 a1.size).toList == a1.toList) = false := beq_eq_false_iff_ne.2 (fun e => hc ⟨hle, e⟩)
    rw [if_pos (by omega), if_pos (by omega), if_pos (by omega), Int.toNat_natCast, hne]
   ·rw [if_neg (by omega)]
  unfold spec_reader_take.f at h
  rw [if_neg hc] at h
  simp only [Option.some.injEq, Prod.mk.injEq] at h
  obtain ⟨rfl, rfl, rfl⟩ := h
  have hcall := Aside0.mk (spec_Begins.calls s0_0 a1 false w hb)
  clear hb hc
  go_enter Tryz.func149, Tryz.ntmps149
  go_wp2_with fail
  refine hcall.out.mono ?_
  rintro e w1 ⟨rfl, hd⟩
  have hI1 := Aside0.mk (hI0.out.below hd.below)
  have hK1 := Aside0.mk (KeepBut.of_below hd.below g none)
  have hB1 := Aside0.mk (below_then hB0.out hB0.out.size hd.below)
  clear hd hcall c0 c1
  go_wp2
  go_ret
  exact ⟨rfl, hI1.out, hB1.out, hK1.out⟩
end Go.Proofs.YtkihaebaccdjdaaGreatDoor.PX
namespace Go.Proofs.YtkihaebaccdjdaaGreatDoor.PX
open Go.RowKit Go.Proofs.YtkihaebaccdjdaaGreatDoorW.PrintWords Go.Proofs.YtkihaebaccdjdaaGreatDoorW.PrintLast Go.Proofs.YtkihaebaccdjdaaGreatDoorW.PrintMore
attribute [local go_sem] max2_int min2_int max_two min_two max_three min_three max_four min_four   -- for this text's walks alone
set_option linter.unusedVariables false
set_option linter.unusedSimpArgs false

/-! ### spec_reader_want: function 108 -/
def spec_reader_want.f (s0_0 : ByteArray) (s0_1 : Bool) (a1 : ByteArray) : Option (ByteArray × Bool) := (spec_reader_take.f s0_0 s0_1 a1).bind fun bt375 => (if bt375.1 = true then (some (bt375.2.1, bt375.2.2)) else (some (bt375.2.1, true)))
set_option maxHeartbeats 8000000 in
set_option maxRecDepth 100000 in
theorem spec_reader_want.calls (g : Nat) (s0_0 : ByteArray) (s0_1 : Bool) (a1 : ByteArray) (r1 : ByteArray) (r2 : Bool) (w0 w : World) (hI : IsS80 w0 w g s0_0 s0_1) (hB : Below w0.heap.size w0 w) (h : spec_reader_want.f s0_0 s0_1 a1 = some (r1, r2)) :
 Calls Tryz.prog 108 #[.pointer (some ⟨g, 0, none⟩), .string a1] w fun e w' => e = .returned (.tuple #[]) ∧ IsS80 w0 w' g r1 r2 ∧ Below w0.heap.size w0 w' ∧ KeepBut w w' g none := by
 have HI0 := Aside0.mk hI
 have HK := Aside0.mk (KeepBut.refl w g none)
 have HL := Aside0.mk hB.size
 clear hI
 have HW0 := Aside0.mk hB.size
 have HB := Aside0.mk hB
 clear hB
 have H : ((spec_reader_take.f s0_0 s0_1 a1).bind fun bt375 => (if bt375.1 = true then (some (bt375.2.1, bt375.2.2)) else (some (bt375.2.1, true)))) = some (r1, r2) := h
 clear h
 replace H := Option.bind_eq_some_iff.mp H
 obtain ⟨⟨t375, t376, t377⟩, A30, H⟩ := H
 replace H : (if t375 = true then (some (t376, t377)) else (some (t376, true))) = some (r1, r2) := H
 have A3 := Aside0.mk A30
 clear A30
 by_cases c4 : t375 = true
 ·subst c4
  have H1 : (some (t376, t377)) = some (r1, r2) := by rw [if_pos rfl] at H; exact H
  clear H
  have H := H1
  clear H1
  simp only [Option.some.injEq, Prod.mk.injEq] at H
  obtain ⟨rfl, rfl⟩ := H
  go_enter Tryz.func108, Tryz.ntmps108
  go_wp2_with (first | ((with_reducible refine gate_callee (f := 149) rfl ?_); refine goesL_ (some 6) rfl rfl Tryz.func149 (by kernel_rfl) rfl #[.pointer (some ⟨g, 0, none⟩), .string a1] rfl (by (try simp only [List.map_toArray, List.map_cons, List.map_nil]); rfl) ?_; (with_reducible refine (spec_reader_take.calls g s0_0 s0_1 a1 true t376 t377 w0 _ ?side1 ?side2 A3.out).mono ?_); (case side1 => repeat ((with_reducible exact HI0.out))); (case side2 => repeat ((with_reducible exact HB.out))); rintro e w5 ⟨rfl, hi, hb, hk⟩; refine ⟨_, rfl, ?_⟩; have n0_ := Aside0.mk (KeepBut.trans (by repeat ((with_reducible exact HK.out))) hk (.inl rfl)); have n1_ := Aside0.mk (hb); have n2_ := Aside0.mk (hi); clear HK; clear HB; clear HI0; have HK := n0_; have HB := n1_; have HI0 := n2_; clear n0_ n1_ n2_; (try clear hb); (try clear hb2); (try clear hk); (try clear hi)))
  go_end0
  exact ⟨by rfl, by repeat ((with_reducible exact HI0.out)), by repeat ((with_reducible exact HB.out)), by repeat ((with_reducible exact HK.out))⟩
 ·replace c4 := Bool.eq_false_iff.mpr c4
  subst c4
  have H1 : (some (t376, true)) = some (r1, r2) := by rw [if_neg (show ¬ (false = true) by decide)] at H; exact H
  clear H
  have H := H1
  clear H1
  simp only [Option.some.injEq, Prod.mk.injEq] at H
  obtain ⟨rfl, rfl⟩ := H
  go_enter Tryz.func108, Tryz.ntmps108
  go_wp2_with (first | ((with_reducible refine gate_callee (f := 149) rfl ?_); refine goesL_ (some 6) rfl rfl Tryz.func149 (by kernel_rfl) rfl #[.pointer (some ⟨g, 0, none⟩), .string a1] rfl (by (try simp only [List.map_toArray, List.map_cons, List.map_nil]); rfl) ?_; (with_reducible refine (spec_reader_take.calls g s0_0 s0_1 a1 false t376 t377 w0 _ ?side1 ?side2 A3.out).mono ?_); (case side1 => repeat ((with_reducible exact HI0.out))); (case side2 => repeat ((with_reducible exact HB.out))); rintro e w6 ⟨rfl, hi, hb, hk⟩; refine ⟨_, rfl, ?_⟩; have n0_ := Aside0.mk (KeepBut.trans (by repeat ((with_reducible exact HK.out))) hk (.inl rfl)); have n1_ := Aside0.mk (hb); have n2_ := Aside0.mk (hi); clear HK; clear HB; clear HI0; have HK := n0_; have HB := n1_; have HI0 := n2_; clear n0_ n1_ n2_; (try clear hb); (try clear hb2); (try clear hk); (try clear hi); obtain ⟨HGz7, hgz7⟩ := HI0.out; have hcz7_0 := cellS80_0 HGz7; have hcz7_1 := cellS80_1 HGz7; have hfz7_0 := blk_frozen HGz7 0; have hfz7_1 := blk_frozen HGz7 1; clear HGz7 hgz7))
  go_end0
  exact ⟨by rfl, by repeat ((with_reducible first | exact HI0.out | apply IsS80.set_1)), by repeat ((with_reducible first | exact HB.out | refine below_set ?_ (IsS80.ge HI0.out))), by repeat ((with_reducible first | exact HK.out | apply KeepBut.set_ ))⟩

end Go.Proofs.YtkihaebaccdjdaaGreatDoor.PX
namespace Go.Proofs.YtkihaebaccdjdaaGreatDoor.PX
open Go.RowKit Go.Proofs.YtkihaebaccdjdaaGreatDoorW.PrintWords Go.Proofs.YtkihaebaccdjdaaGreatDoorW.PrintLast Go.Proofs.YtkihaebaccdjdaaGreatDoorW.PrintMore
attribute [local go_sem] max2_int min2_int max_two min_two max_three min_three max_four min_four   -- for this text's walks alone
set_option linter.unusedVariables false
set_option linter.unusedSimpArgs false

/-! ### spec_reader_token: function 83 -/
def spec_reader_token.f (k : Nat) (s0_0 : ByteArray) (s0_1 : Bool) (a1 : ByteArray) : Option (ByteArray × Bool) := (spec_reader_space.f k s0_0 s0_1).bind fun bt378 => ((spec_reader_want.f bt378.1 bt378.2 a1).bind fun bt380 => (some (bt380.1, bt380.2)))
set_option maxHeartbeats 8000000 in
set_option maxRecDepth 100000 in
theorem spec_reader_token.calls (k : Nat) (g : Nat) (s0_0 : ByteArray) (s0_1 : Bool) (a1 : ByteArray) (r1 : ByteArray) (r2 : Bool) (w0 w : World) (hI : IsS80 w0 w g s0_0 s0_1) (hB : Below w0.heap.size w0 w) (h : spec_reader_token.f k s0_0 s0_1 a1 = some (r1, r2)) :
 Calls Tryz.prog 83 #[.pointer (some ⟨g, 0, none⟩), .string a1] w fun e w' => e = .returned (.tuple #[]) ∧ IsS80 w0 w' g r1 r2 ∧ Below w0.heap.size w0 w' ∧ KeepBut w w' g none := by
 have HI0 := Aside0.mk hI
 have HK := Aside0.mk (KeepBut.refl w g none)
 have HL := Aside0.mk hB.size
 clear hI
 have HW0 := Aside0.mk hB.size
 have HB := Aside0.mk hB
 clear hB
 have H : ((spec_reader_space.f k s0_0 s0_1).bind fun bt378 => ((spec_reader_want.f bt378.1 bt378.2 a1).bind fun bt380 => (some (bt380.1, bt380.2)))) = some (r1, r2) := h
 clear h
 replace H := Option.bind_eq_some_iff.mp H
 obtain ⟨⟨t378, t379⟩, A30, H⟩ := H
 replace H : ((spec_reader_want.f t378 t379 a1).bind fun bt380 => (some (bt380.1, bt380.2))) = some (r1, r2) := H
 have A3 := Aside0.mk A30
 clear A30
 replace H := Option.bind_eq_some_iff.mp H
 obtain ⟨⟨t380, t381⟩, A40, H⟩ := H
 replace H : (some (t380, t381)) = some (r1, r2) := H
 have A4 := Aside0.mk A40
 clear A40
 simp only [Option.some.injEq, Prod.mk.injEq] at H
 obtain ⟨rfl, rfl⟩ := H
 go_enter Tryz.func83, Tryz.ntmps83
 go_wp2_with (first | ((with_reducible refine gate_callee (f := 37) rfl ?_); refine goesL_ (some 5) rfl rfl Tryz.func37 (by kernel_rfl) rfl #[.pointer (some ⟨g, 0, none⟩)] rfl (by (try simp only [List.map_toArray, List.map_cons, List.map_nil]); rfl) ?_; (with_reducible refine (spec_reader_space.calls k g s0_0 s0_1 t378 t379 w0 _ ?side1 ?side2 A3.out).mono ?_); (case side1 => repeat ((with_reducible exact HI0.out))); (case side2 => repeat ((with_reducible exact HB.out))); rintro e w5 ⟨rfl, hi, hb, hk⟩; refine ⟨_, rfl, ?_⟩; have n0_ := Aside0.mk (KeepBut.trans (by repeat ((with_reducible exact HK.out))) hk (.inl rfl)); have n1_ := Aside0.mk (hb); have n2_ := Aside0.mk (hi); clear HK; clear HB; clear HI0; have HK := n0_; have HB := n1_; have HI0 := n2_; clear n0_ n1_ n2_; (try clear hb); (try clear hb2); (try clear hk); (try clear hi)) | ((with_reducible refine gate_callee (f := 108) rfl ?_); refine goesL_ (some 8) rfl rfl Tryz.func108 (by kernel_rfl) rfl #[.pointer (some ⟨g, 0, none⟩), .string a1] rfl (by (try simp only [List.map_toArray, List.map_cons, List.map_nil]); rfl) ?_; (with_reducible refine (spec_reader_want.calls g t378 t379 a1 t380 t381 w0 _ ?side1 ?side2 A4.out).mono ?_); (case side1 => repeat ((with_reducible exact HI0.out))); (case side2 => repeat ((with_reducible exact HB.out))); rintro e w6 ⟨rfl, hi, hb, hk⟩; refine ⟨_, rfl, ?_⟩; have n0_ := Aside0.mk (KeepBut.trans (by repeat ((with_reducible exact HK.out))) hk (.inl rfl)); have n1_ := Aside0.mk (hb); have n2_ := Aside0.mk (hi); clear HK; clear HB; clear HI0; have HK := n0_; have HB := n1_; have HI0 := n2_; clear n0_ n1_ n2_; (try clear hb); (try clear hb2); (try clear hk); (try clear hi)))
 go_end0
 exact ⟨by rfl, by repeat ((with_reducible exact HI0.out)), by repeat ((with_reducible exact HB.out)), by repeat ((with_reducible exact HK.out))⟩

end Go.Proofs.YtkihaebaccdjdaaGreatDoor.PX
namespace Go.Proofs.YtkihaebaccdjdaaGreatDoor.PX
open Go.RowKit Go.Proofs.YtkihaebaccdjdaaGreatDoorW.PrintWords Go.Proofs.YtkihaebaccdjdaaGreatDoorW.PrintLast Go.Proofs.YtkihaebaccdjdaaGreatDoorW.PrintMore
attribute [local go_sem] max2_int min2_int max_two min_two max_three min_three max_four min_four   -- for this text's walks alone
set_option linter.unusedVariables false
set_option linter.unusedSimpArgs false

/-! ### spec_reader_peek: function 85 -/
def spec_reader_peek.f (s0_0 : ByteArray) (s0_1 : Bool) : Option (Int × ByteArray × Bool) := if s0_0.toList = ([] : List UInt8) then (some (0, s0_0, s0_1)) else (if 0 < (s0_0.size : Int) then (some (bt s0_0 0, s0_0, s0_1)) else (none))
set_option maxHeartbeats 8000000 in
set_option maxRecDepth 100000 in
theorem spec_reader_peek.calls (g : Nat) (s0_0 : ByteArray) (s0_1 : Bool) (r1 : Int) (r2 : ByteArray) (r3 : Bool) (w0 w : World) (hI : IsS80 w0 w g s0_0 s0_1) (hB : Below w0.heap.size w0 w) (h : spec_reader_peek.f s0_0 s0_1 = some (r1, r2, r3)) :
 Calls Tryz.prog 85 #[.pointer (some ⟨g, 0, none⟩)] w fun e w' => e = .returned (.int .u8 r1) ∧ IsS80 w0 w' g r2 r3 ∧ Below w0.heap.size w0 w' ∧ KeepBut w w' g none := by
 have HI0 := Aside0.mk hI
 have HK := Aside0.mk (KeepBut.refl w g none)
 have HL := Aside0.mk hB.size
 clear hI
 have HW0 := Aside0.mk hB.size
 have HB := Aside0.mk hB
 clear hB
 have H : (if s0_0.toList = ([] : List UInt8) then (some (0, s0_0, s0_1)) else (if 0 < (s0_0.size : Int) then (some (bt s0_0 0, s0_0, s0_1)) else (none))) = some (r1, r2, r3) := h
 clear h
 by_cases c2 : s0_0.toList = ([] : List UInt8)
 ·rw [if_pos c2] at H
  have c2b0 : (s0_0.toList == ([] : List UInt8)) = true := beq_iff_eq.mpr c2
  have c2b1 : (s0_0.toList != ([] : List UInt8)) = false := bne_eq_false_iff_eq.mpr c2
  clear c2
  simp only [Option.some.injEq, Prod.mk.injEq] at H
  obtain ⟨rfl, rfl, rfl⟩ := H
  obtain ⟨HGz3, hgz3⟩ := HI0.out
  have hcz3_0 := cellS80_0 HGz3
  have hcz3_1 := cellS80_1 HGz3
  have hfz3_0 := blk_frozen HGz3 0
  have hfz3_1 := blk_frozen HGz3 1
  clear HGz3 hgz3
  go_enter Tryz.func85, Tryz.ntmps85
  go_wp2
  go_ret
  exact ⟨by rfl, by repeat ((with_reducible exact HI0.out)), by repeat ((with_reducible exact HB.out)), by repeat ((with_reducible exact HK.out))⟩
 ·rw [if_neg c2] at H
  have c2b0 : (s0_0.toList == ([] : List UInt8)) = false := beq_eq_false_iff_ne.mpr c2
  have c2b1 : (s0_0.toList != ([] : List UInt8)) = true := bne_iff_ne.mpr c2
  by_cases c4 : 0 < (s0_0.size : Int)
  ·rw [if_pos c4] at H
   have c4b0 : decide (0 < (s0_0.size : Int)) = true := decide_eq_true c4
   have c4b1 : decide (0 < s0_0.size) = true := decide_eq_true (by omega)
   clear c4
   simp only [Option.some.injEq, Prod.mk.injEq] at H
   obtain ⟨rfl, rfl, rfl⟩ := H
   obtain ⟨HGz6, hgz6⟩ := HI0.out
   have hcz6_0 := cellS80_0 HGz6
   have hcz6_1 := cellS80_1 HGz6
   have hfz6_0 := blk_frozen HGz6 0
   have hfz6_1 := blk_frozen HGz6 1
   clear HGz6 hgz6
   have p5 : 0 ≤ (0 : Int) := (by omega)
   have q5 : 0 < s0_0.size := (by have : (0 : Int) < (s0_0.size : Int) := of_decide_eq_true (by first | (with_reducible assumption) | assumption); omega)
   have hx5 : ∀ h : 0 < s0_0.size, ((s0_0[0]'h).toNat : Int) = bt s0_0 0 := bt_at s0_0 0
   clear p5
   have qi5 : (0 < (s0_0.size : Int)) = True := eq_true (of_decide_eq_true (by first | (with_reducible assumption) | assumption))
   replace q5 := eq_true q5
   go_enter Tryz.func85, Tryz.ntmps85
   go_wp2
   go_ret
   exact ⟨by rfl, by repeat ((with_reducible exact HI0.out)), by repeat ((with_reducible exact HB.out)), by repeat ((with_reducible exact HK.out))⟩
  ·rw [if_neg c4] at H
   exact absurd H (by simp)

end Go.Proofs.YtkihaebaccdjdaaGreatDoor.PX
namespace Go.Proofs.YtkihaebaccdjdaaGreatDoor.PX
open Go.RowKit Go.Proofs.YtkihaebaccdjdaaGreatDoorW.PrintWords Go.Proofs.YtkihaebaccdjdaaGreatDoorW.PrintLast Go.Proofs.YtkihaebaccdjdaaGreatDoorW.PrintMore
attribute [local go_sem] max2_int min2_int max_two min_two max_three min_three max_four min_four   -- for this text's walks alone
set_option linter.unusedVariables false
set_option linter.unusedSimpArgs false

/-! ### spec_digit: function 79 -/
mutual
def spec_digit.j0 : Nat → Int → Bool → Option (Int × Bool)
 | 0, _, _ => none
 | k + 1, x0, x4 => if x4 = true then (some ((x0 - 48) % 256, true)) else (if x0 ≥ 65 then (spec_digit.j1 k x0 (decide (x0 ≤ 70))) else (spec_digit.j1 k x0 false))
def spec_digit.j1 : Nat → Int → Bool → Option (Int × Bool)
 | 0, _, _ => none
 | k + 1, x0, x13 => if x13 = true then (some ((((x0 - 65) % 256) + 10) % 256, true)) else (if x0 ≥ 97 then (if x0 ≤ 102 then (some ((((x0 - 97) % 256) + 10) % 256, true)) else (some (0, false))) else (some (0, false)))
end
def spec_digit.f (k : Nat) (a0 : Int) : Option (Int × Bool) := if a0 ≥ 48 then (spec_digit.j0 k a0 (decide (a0 ≤ 57))) else (spec_digit.j0 k a0 false)
set_option maxHeartbeats 8000000 in
set_option maxRecDepth 100000 in
theorem spec_digit.calls (k : Nat) (a0 : Int) (r1 : Int) (r2 : Bool) (w : World) (h : spec_digit.f k a0 = some (r1, r2)) :
 Calls Tryz.prog 79 #[.int .u8 a0] w fun e w' => e = .returned (.tuple #[.int .u8 r1, .bool r2]) ∧ Drawn0 w w' := by
 have H : (if a0 ≥ 48 then (spec_digit.j0 k a0 (decide (a0 ≤ 57))) else (spec_digit.j0 k a0 false)) = some (r1, r2) := h
 clear h
 have HC2 := Aside0.mk H
 clear H
 go_enter Tryz.func79, Tryz.ntmps79
 go_upto_region 1 with (fail)
 go_cut [4] (fun v4 wc => ∃ (kq : Nat) (x4_1 : Bool), v4 = .bool x4_1 ∧ Aside0 (spec_digit.j0 kq a0 x4_1 = some (r1, r2)) ∧ Aside0 (kq ≤ k) ∧ Drawn0 w wc)
 case first =>
  have H := HC2.out
  clear HC2
  by_cases c3 : a0 ≥ 48
  ·rw [if_pos c3] at H
   have c3b0 : decide (48 ≤ a0) = true := decide_eq_true c3
   clear c3
   (first | rw [c3b0] | (simp only [i64_w, i32_w]; rw [c3b0]) | skip)
   have H' := Aside0.mk H
   clear H
   go_wp2
   go_meet
   case rel => exact ⟨_, (decide (a0 ≤ 57)), (by first | rfl | (simp; done) | (simp [*]; done)), H', ⟨by first | omega | exact Nat.le_refl _⟩, by repeat (first | exact Drawn0.refl _ | apply Drawn0.step)⟩
  ·rw [if_neg c3] at H
   have c3b0 : decide (48 ≤ a0) = false := decide_eq_false c3
   clear c3
   (first | rw [c3b0] | (simp only [i64_w, i32_w]; rw [c3b0]) | skip)
   have H' := Aside0.mk H
   clear H
   go_wp2
   go_meet
   case rel => exact ⟨_, (false), (by first | rfl | (simp; done) | (simp [*]; done)), H', ⟨by first | omega | exact Nat.le_refl _⟩, by repeat (first | exact Drawn0.refl _ | apply Drawn0.step)⟩
 case rest =>
  clear HC2
  try clear p2
  try clear c3
  try clear c3b0
  obtain ⟨kq, x4_1, rfl, HA, HJ1, ⟨mc1, rfl⟩⟩ := hcut
  cases kq with
  | zero => exact absurd HA.out (by simp [spec_digit.j0])
  | succ kj1 =>
    have H := HA.out
    clear HA
    simp only [spec_digit.j0] at H
    by_cases c4 : x4_1 = true
    ·subst c4
     have H1 : (some ((a0 - 48) % 256, true)) = some (r1, r2) := by rw [if_pos rfl] at H; exact H
     clear H
     have H := H1
     clear H1
     simp only [Option.some.injEq, Prod.mk.injEq] at H
     obtain ⟨rfl, rfl⟩ := H
     go_wp2
     go_ret2
     exact ⟨by first | rfl | (simp; done) | (simp [*]; done), by repeat (first | exact Drawn0.refl _ | apply Drawn0.step)⟩
    ·replace c4 := Bool.eq_false_iff.mpr c4
     subst c4
     have H1 : (if a0 ≥ 65 then (spec_digit.j1 kj1 a0 (decide (a0 ≤ 70))) else (spec_digit.j1 kj1 a0 false)) = some (r1, r2) := by rw [if_neg (show ¬ (false = true) by decide)] at H; exact H
     clear H
     have H := H1
     clear H1
     have HC5 := Aside0.mk H
     clear H
     go_upto_region 3 with (fail)
     go_cut [13] (fun v13 wc => ∃ (kq : Nat) (x13_4 : Bool), v13 = .bool x13_4 ∧ Aside0 (spec_digit.j1 kq a0 x13_4 = some (r1, r2)) ∧ Aside0 (kq ≤ kj1) ∧ Drawn0 w wc)
     case first =>
      have H := HC5.out
      clear HC5
      by_cases c6 : a0 ≥ 65
      ·rw [if_pos c6] at H
       have c6b0 : decide (65 ≤ a0) = true := decide_eq_true c6
       clear c6
       (first | rw [c6b0] | (simp only [i64_w, i32_w]; rw [c6b0]) | skip)
       have H' := Aside0.mk H
       clear H
       go_wp2
       go_meet
       case rel => exact ⟨_, (decide (a0 ≤ 70)), (by first | rfl | (simp; done) | (simp [*]; done)), H', ⟨by have := HJ1.out; first | omega | exact Nat.le_refl _⟩, by repeat (first | exact Drawn0.refl _ | apply Drawn0.step)⟩
      ·rw [if_neg c6] at H
       have c6b0 : decide (65 ≤ a0) = false := decide_eq_false c6
       clear c6
       (first | rw [c6b0] | (simp only [i64_w, i32_w]; rw [c6b0]) | skip)
       have H' := Aside0.mk H
       clear H
       go_wp2
       go_meet
       case rel => exact ⟨_, (false), (by first | rfl | (simp; done) | (simp [*]; done)), H', ⟨by have := HJ1.out; first | omega | exact Nat.le_refl _⟩, by repeat (first | exact Drawn0.refl _ | apply Drawn0.step)⟩
     case rest =>
      clear HC5
      try clear c1
      try clear p2
      try clear c3
      try clear c3b0
      try clear c4
      try clear c6
      try clear c6b0
      try clear p2
      obtain ⟨kq, x13_4, rfl, HA, HJ4, ⟨mc4, rfl⟩⟩ := hcut
      cases kq with
      | zero => exact absurd HA.out (by simp [spec_digit.j1])
      | succ kj4 =>
        have H := HA.out
        clear HA
        simp only [spec_digit.j1] at H
        by_cases c7 : x13_4 = true
        ·subst c7
         have H1 : (some ((((a0 - 65) % 256) + 10) % 256, true)) = some (r1, r2) := by rw [if_pos rfl] at H; exact H
         clear H
         have H := H1
         clear H1
         simp only [Option.some.injEq, Prod.mk.injEq] at H
         obtain ⟨rfl, rfl⟩ := H
         go_wp2
         go_ret2
         exact ⟨by first | rfl | (simp; done) | (simp [*]; done), by repeat (first | exact Drawn0.refl _ | apply Drawn0.step)⟩
        ·replace c7 := Bool.eq_false_iff.mpr c7
         subst c7
         have H1 : (if a0 ≥ 97 then (if a0 ≤ 102 then (some ((((a0 - 97) % 256) + 10) % 256, true)) else (some (0, false))) else (some (0, false))) = some (r1, r2) := by rw [if_neg (show ¬ (false = true) by decide)] at H; exact H
         clear H
         have H := H1
         clear H1
         by_cases c8 : a0 ≥ 97
         ·rw [if_pos c8] at H
          have c8b0 : decide (97 ≤ a0) = true := decide_eq_true c8
          clear c8
          by_cases c9 : a0 ≤ 102
          ·rw [if_pos c9] at H
           have c9b0 : decide (a0 ≤ 102) = true := decide_eq_true c9
           clear c9
           simp only [Option.some.injEq, Prod.mk.injEq] at H
           obtain ⟨rfl, rfl⟩ := H
           go_wp2
           go_ret2
           exact ⟨by first | rfl | (simp; done) | (simp [*]; done), by repeat (first | exact Drawn0.refl _ | apply Drawn0.step)⟩
          ·rw [if_neg c9] at H
           have c9b0 : decide (a0 ≤ 102) = false := decide_eq_false c9
           clear c9
           simp only [Option.some.injEq, Prod.mk.injEq] at H
           obtain ⟨rfl, rfl⟩ := H
           go_wp2
           go_ret2
           exact ⟨by first | rfl | (simp; done) | (simp [*]; done), by repeat (first | exact Drawn0.refl _ | apply Drawn0.step)⟩
         ·rw [if_neg c8] at H
          have c8b0 : decide (97 ≤ a0) = false := decide_eq_false c8
          clear c8
          simp only [Option.some.injEq, Prod.mk.injEq] at H
          obtain ⟨rfl, rfl⟩ := H
          go_wp2
          go_ret2
          exact ⟨by first | rfl | (simp; done) | (simp [*]; done), by repeat (first | exact Drawn0.refl _ | apply Drawn0.step)⟩

end Go.Proofs.YtkihaebaccdjdaaGreatDoor.PX
