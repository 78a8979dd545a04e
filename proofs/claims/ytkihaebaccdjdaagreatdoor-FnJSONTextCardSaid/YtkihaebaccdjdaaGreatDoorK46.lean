import Derived.Test.YtkihaebaccdjdaaGreatDoorK7
import Derived.Test.YtkihaebaccdjdaaGreatDoorK40
import Derived.Test.YtkihaebaccdjdaaGreatDoorK44
import Derived.Test.YtkihaebaccdjdaaGreatDoorK45
namespace Go.Proofs.YtkihaebaccdjdaaGreatDoor.PX
open Go.RowKit Go.Proofs.YtkihaebaccdjdaaGreatDoorW.PrintWords Go.Proofs.YtkihaebaccdjdaaGreatDoorW.PrintLast Go.Proofs.YtkihaebaccdjdaaGreatDoorW.PrintMore
attribute [local go_sem] max2_int min2_int max_two min_two max_three min_three max_four min_four   -- for this text's walks alone
set_option linter.unusedVariables false
set_option linter.unusedSimpArgs false

/-! ### spec_reader_hex: function 191 -/
def spec_reader_hex.l0 : Nat → Int → Int → ByteArray → Bool → Option (Int × ByteArray × Bool)
  | 0, _, _, _, _ => none
  | k + 1, x3, x6, x1000, x1001 => if x6 < 4 then ((spec_reader_peek.f x1000 x1001).bind fun bt387 => ((spec_digit.f k bt387.1).bind fun bt390 => (if bt387.2.1.toList = ([] : List UInt8) then (some (0, bt387.2.1, true)) else (if bt390.2 = true then (if 1 ≤ (bt387.2.1.size : Int) then (spec_reader_hex.l0 k (Go.bits .or .i32 (wrap32 (x3 * 16)) (wrap32 (bt390.1))) (wrap64 (x6 + 1)) (bt387.2.1.extract 1 bt387.2.1.size) bt387.2.2) else (none)) else (some (0, bt387.2.1, true)))))) else (some (x3, x1000, x1001))
def spec_reader_hex.f (k : Nat) (s0_0 : ByteArray) (s0_1 : Bool) : Option (Int × ByteArray × Bool) := spec_reader_hex.l0 k 0 0 s0_0 s0_1
theorem spec_reader_hex.mono_l : ∀ k, (∀ y0 y1 y2 y3, LeO (spec_reader_hex.l0 k y0 y1 y2 y3) (spec_reader_hex.l0 (k + 1) y0 y1 y2 y3))
  | 0 => fun _ _ _ _ r h => by simp [spec_reader_hex.l0] at h
  | k + 1 => by
    have ih0 := spec_reader_hex.mono_l k
    · intro y0 y1 y2 y3
      unfold spec_reader_hex.l0
      repeat' first
      | (with_reducible exact ih0 _ _ _ _)
      | (with_reducible exact spec_digit.mono _ _)
      | (with_reducible exact LeO.refl _)
      | (with_reducible exact LeO.none _)
      | (with_reducible refine LeO.ite ?_ ?_)
      | (with_reducible refine LeO.bind ?_ (fun _ => ?_))
      | exact ih0 _ _ _ _
      | exact spec_digit.mono _ _
      | exact LeO.none _
      | refine LeO.ite ?_ ?_
      | refine LeO.bind ?_ (fun _ => ?_)
theorem spec_reader_hex.mono : ∀ a0 a1 k, LeO (spec_reader_hex.f k a0 a1) (spec_reader_hex.f (k + 1) a0 a1) := by
  intro a0 a1 k
  have ih0 := spec_reader_hex.mono_l k
  unfold spec_reader_hex.f
  repeat' first
      | (with_reducible exact ih0 _ _ _ _)
      | (with_reducible exact spec_digit.mono _ _)
      | (with_reducible exact LeO.refl _)
      | (with_reducible exact LeO.none _)
      | (with_reducible refine LeO.ite ?_ ?_)
      | (with_reducible refine LeO.bind ?_ (fun _ => ?_))
      | exact ih0 _ _ _ _
      | exact spec_digit.mono _ _
      | exact LeO.none _
      | refine LeO.ite ?_ ?_
      | refine LeO.bind ?_ (fun _ => ?_)
set_option maxHeartbeats 8000000 in
set_option maxRecDepth 100000 in
theorem spec_reader_hex.calls (k : Nat) (g : Nat) (s0_0 : ByteArray) (s0_1 : Bool) (r1 : Int) (r2 : ByteArray) (r3 : Bool) (w0 w : World) (hI : IsS80 w0 w g s0_0 s0_1) (hB : Below w0.heap.size w0 w) (h : spec_reader_hex.f k s0_0 s0_1 = some (r1, r2, r3)) :
    Calls Tryz.prog 191 #[.pointer (some ⟨g, 0, none⟩)] w fun e w' => e = .returned (.int .i32 r1) ∧ IsS80 w0 w' g r2 r3 ∧ Below w0.heap.size w0 w' ∧ KeepBut w w' g none := by
  have HI0 := Aside0.mk hI
  have HK := Aside0.mk (KeepBut.refl w g none)
  have HL := Aside0.mk hB.size
  clear hI
  have HW0 := Aside0.mk hB.size
  have HB := Aside0.mk hB
  clear hB
  have H : (spec_reader_hex.l0 k 0 0 s0_0 s0_1) = some (r1, r2, r3) := h
  clear h
  have H' := Aside0.mk H
  clear H
  go_enter Tryz.func191, Tryz.ntmps191
  go_wp2
  go_loopg [3, 6] k (fun kq v3 v6 w' => ∃ (x3_1 : Int) (x6_1 : Int) (x1000_1 : ByteArray) (x1001_1 : Bool), v3 = .int .i32 x3_1 ∧ v6 = .int .i64 x6_1 ∧ Aside0 (spec_reader_hex.l0 kq x3_1 x6_1 x1000_1 x1001_1 = some (r1, r2, r3)) ∧ Aside0 (kq ≤ k) ∧ Aside0 (IsS80 w0 w' g x1000_1 x1001_1) ∧ Aside0 (KeepBut w w' g none) ∧ Aside0 (Below w0.heap.size w0 w'))
  case atStart => exact ⟨(0), (0), (s0_0), (s0_1), (by first | rfl | (simp; done) | (simp [*]; done)), (by first | rfl | (simp; done) | (simp [*]; done)), H', ⟨Nat.le_refl _⟩, ⟨by repeat (first | (with_reducible first | exact HI0.out | apply IsS80.alloc | apply IsS80.drewN | apply IsS80.drew | apply IsS80.set_0 | apply IsS80.set_1) | exact HI0.out)⟩, ⟨by repeat (first | (with_reducible first | exact HK.out | apply KeepBut.set_ | apply keep_drewN | apply keep_drew | apply keep_alloc) | exact HK.out)⟩, ⟨by repeat (first | (with_reducible first | exact HB.out | apply below_alloc | apply pw_below_drewN | apply below_drew1 | refine below_set ?_ (IsS80.ge HI0.out)) | exact HB.out)⟩⟩
  case round =>
    clear H'
    try clear c1
    obtain ⟨x3_1, x6_1, x1000_1, x1001_1, rfl, rfl, HA, HK1, HI0, HK, HB⟩ := hrel
    cases gk with
    | zero => exact absurd HA.out (by simp [spec_reader_hex.l0])
    | succ k1 =>
      have H := HA.out
      clear HA
      simp only [spec_reader_hex.l0] at H
      by_cases c2 : x6_1 < 4
      · rw [if_pos c2] at H
        have c2b0 : decide (x6_1 < 4) = true := decide_eq_true c2
        clear c2
        replace H := Option.bind_eq_some_iff.mp H
        obtain ⟨⟨t387, t388, t389⟩, A30, H⟩ := H
        replace H : ((spec_digit.f k1 t387).bind fun bt390 => (if t388.toList = ([] : List UInt8) then (some (0, t388, true)) else (if bt390.2 = true then (if 1 ≤ (t388.size : Int) then (spec_reader_hex.l0 k1 (Go.bits .or .i32 (wrap32 (x3_1 * 16)) (wrap32 (bt390.1))) (wrap64 (x6_1 + 1)) (t388.extract 1 t388.size) t389) else (none)) else (some (0, t388, true))))) = some (r1, r2, r3) := H
        have A3 := Aside0.mk A30
        clear A30
        replace H := Option.bind_eq_some_iff.mp H
        obtain ⟨⟨t390, t391⟩, A40, H⟩ := H
        replace H : (if t388.toList = ([] : List UInt8) then (some (0, t388, true)) else (if t391 = true then (if 1 ≤ (t388.size : Int) then (spec_reader_hex.l0 k1 (Go.bits .or .i32 (wrap32 (x3_1 * 16)) (wrap32 (t390))) (wrap64 (x6_1 + 1)) (t388.extract 1 t388.size) t389) else (none)) else (some (0, t388, true)))) = some (r1, r2, r3) := H
        have A4 := Aside0.mk A40
        clear A40
        by_cases c5 : t388.toList = ([] : List UInt8)
        · rw [if_pos c5] at H
          have c5b0 : (t388.toList == ([] : List UInt8)) = true := beq_iff_eq.mpr c5
          have c5b1 : (t388.toList != ([] : List UInt8)) = false := bne_eq_false_iff_eq.mpr c5
          clear c5
          simp only [Option.some.injEq, Prod.mk.injEq] at H
          obtain ⟨rfl, rfl, rfl⟩ := H
          go_wp2_with (first | ((with_reducible refine gate_callee (f := 85) rfl ?_); refine goesL_ (some 10) rfl rfl Tryz.func85 (by kernel_rfl) rfl #[.pointer (some ⟨g, 0, none⟩)] rfl (by (try simp only [List.map_toArray, List.map_cons, List.map_nil]); first | done | rfl | (simp only [List.length_drop, List.length_take]; rfl)) ?_; (with_reducible refine (spec_reader_peek.calls g x1000_1 x1001_1 t387 t388 t389 w0 _ ?side1 ?side2 A3.out).mono ?_); (case side1 => repeat (first | (with_reducible first | exact HI0.out | apply IsS80.alloc | apply IsS80.drewN | apply IsS80.drew | apply IsS80.set_0 | apply IsS80.set_1) | exact HI0.out)); (case side2 => repeat (first | (with_reducible first | exact HB.out | apply below_alloc | apply pw_below_drewN | apply below_drew1 | refine below_set ?_ (IsS80.ge HI0.out)) | exact HB.out)); rintro e w6 ⟨rfl, hi, hb, hk⟩; refine ⟨_, rfl, ?_⟩; have n0_ := Aside0.mk (KeepBut.trans (by repeat (first | (with_reducible first | exact HK.out | apply KeepBut.set_ | apply keep_drewN | apply keep_drew | apply keep_alloc) | exact HK.out)) hk (.inl rfl)); have n1_ := Aside0.mk (hb); have n2_ := Aside0.mk (hi); clear HK; clear HB; clear HI0; have HK := n0_; have HB := n1_; have HI0 := n2_; clear n0_ n1_ n2_; (try clear hb); (try clear hb2); (try clear hk); (try clear hi)) | ((with_reducible refine gate_callee (f := 79) rfl ?_); refine goesL_ (some 11) rfl rfl Tryz.func79 (by kernel_rfl) rfl #[.int .u8 t387] rfl (by (try simp only [List.map_toArray, List.map_cons, List.map_nil]); first | done | rfl | (simp only [List.length_drop, List.length_take]; rfl)) ?_; (with_reducible refine (spec_digit.calls k1 t387 t390 t391 _ A4.out).mono ?_); rintro e w' ⟨rfl, ⟨nd, rfl⟩⟩; refine ⟨_, rfl, ?_⟩; (try (rw [drewN_self w6]; generalize hq_ : World.drewN w6 _ = w6; have n0_ : Aside0 (IsS80 w0 w6 g t388 t389) := ⟨by rw [← hq_]; exact (by repeat (first | (with_reducible first | exact HI0.out | apply IsS80.alloc | apply IsS80.drewN | apply IsS80.drew | apply IsS80.set_0 | apply IsS80.set_1) | exact HI0.out))⟩; have n1_ : Aside0 (KeepBut w w6 g none) := ⟨by rw [← hq_]; exact (by repeat (first | (with_reducible first | exact HK.out | apply KeepBut.set_ | apply keep_drewN | apply keep_drew | apply keep_alloc) | exact HK.out))⟩; have n2_ : Aside0 (Below w0.heap.size w0 w6) := ⟨by rw [← hq_]; exact (by repeat (first | (with_reducible first | exact HB.out | apply below_alloc | apply pw_below_drewN | apply below_drew1 | refine below_set ?_ (IsS80.ge HI0.out)) | exact HB.out))⟩; clear HI0 HK HB hq_; have HI0 := n0_; have HK := n1_; have HB := n2_; clear n0_ n1_ n2_)); obtain ⟨HGz7, hgz7⟩ := HI0.out; have hcz7_0 := cellS80_0 HGz7; have hcz7_1 := cellS80_1 HGz7; have hfz7_0 := blk_frozen HGz7 0; have hfz7_1 := blk_frozen HGz7 1; clear HGz7 hgz7))
          go_ret
          exact ⟨by first | rfl | (simp [errW_none, errW_some] <;> rfl) | (simp [*, errW_none, errW_some] <;> rfl), by repeat (first | (with_reducible first | exact HI0.out | apply IsS80.alloc | apply IsS80.drewN | apply IsS80.drew | apply IsS80.set_0 | apply IsS80.set_1) | exact HI0.out), by repeat (first | (with_reducible first | exact HB.out | apply below_alloc | apply pw_below_drewN | apply below_drew1 | refine below_set ?_ (IsS80.ge HI0.out)) | exact HB.out), by repeat (first | (with_reducible first | exact HK.out | apply KeepBut.set_ | apply keep_drewN | apply keep_drew | apply keep_alloc) | exact HK.out)⟩
        · rw [if_neg c5] at H
          have c5b0 : (t388.toList == ([] : List UInt8)) = false := beq_eq_false_iff_ne.mpr c5
          have c5b1 : (t388.toList != ([] : List UInt8)) = true := bne_iff_ne.mpr c5
          by_cases c8 : t391 = true
          · subst c8
            have H1 : (if 1 ≤ (t388.size : Int) then (spec_reader_hex.l0 k1 (Go.bits .or .i32 (wrap32 (x3_1 * 16)) (wrap32 (t390))) (wrap64 (x6_1 + 1)) (t388.extract 1 t388.size) t389) else (none)) = some (r1, r2, r3) := by rw [if_pos rfl] at H; exact H
            clear H
            have H := H1
            clear H1
            by_cases c9 : 1 ≤ (t388.size : Int)
            · rw [if_pos c9] at H
              have c9b0 := eq_true c9
              have c9b1 : decide (1 ≤ (t388.size : Int)) = true := decide_eq_true c9
              clear c9
              have H' := Aside0.mk H
              clear H
              go_wp2_with (first | ((with_reducible refine gate_callee (f := 85) rfl ?_); refine goesL_ (some 10) rfl rfl Tryz.func85 (by kernel_rfl) rfl #[.pointer (some ⟨g, 0, none⟩)] rfl (by (try simp only [List.map_toArray, List.map_cons, List.map_nil]); first | done | rfl | (simp only [List.length_drop, List.length_take]; rfl)) ?_; (with_reducible refine (spec_reader_peek.calls g x1000_1 x1001_1 t387 t388 t389 w0 _ ?side1 ?side2 A3.out).mono ?_); (case side1 => repeat (first | (with_reducible first | exact HI0.out | apply IsS80.alloc | apply IsS80.drewN | apply IsS80.drew | apply IsS80.set_0 | apply IsS80.set_1) | exact HI0.out)); (case side2 => repeat (first | (with_reducible first | exact HB.out | apply below_alloc | apply pw_below_drewN | apply below_drew1 | refine below_set ?_ (IsS80.ge HI0.out)) | exact HB.out)); rintro e w10 ⟨rfl, hi, hb, hk⟩; refine ⟨_, rfl, ?_⟩; have n0_ := Aside0.mk (KeepBut.trans (by repeat (first | (with_reducible first | exact HK.out | apply KeepBut.set_ | apply keep_drewN | apply keep_drew | apply keep_alloc) | exact HK.out)) hk (.inl rfl)); have n1_ := Aside0.mk (hb); have n2_ := Aside0.mk (hi); clear HK; clear HB; clear HI0; have HK := n0_; have HB := n1_; have HI0 := n2_; clear n0_ n1_ n2_; (try clear hb); (try clear hb2); (try clear hk); (try clear hi)) | ((with_reducible refine gate_callee (f := 79) rfl ?_); refine goesL_ (some 11) rfl rfl Tryz.func79 (by kernel_rfl) rfl #[.int .u8 t387] rfl (by (try simp only [List.map_toArray, List.map_cons, List.map_nil]); first | done | rfl | (simp only [List.length_drop, List.length_take]; rfl)) ?_; (with_reducible refine (spec_digit.calls k1 t387 t390 true _ A4.out).mono ?_); rintro e w' ⟨rfl, ⟨nd, rfl⟩⟩; refine ⟨_, rfl, ?_⟩; (try (rw [drewN_self w10]; generalize hq_ : World.drewN w10 _ = w10; have n0_ : Aside0 (IsS80 w0 w10 g t388 t389) := ⟨by rw [← hq_]; exact (by repeat (first | (with_reducible first | exact HI0.out | apply IsS80.alloc | apply IsS80.drewN | apply IsS80.drew | apply IsS80.set_0 | apply IsS80.set_1) | exact HI0.out))⟩; have n1_ : Aside0 (KeepBut w w10 g none) := ⟨by rw [← hq_]; exact (by repeat (first | (with_reducible first | exact HK.out | apply KeepBut.set_ | apply keep_drewN | apply keep_drew | apply keep_alloc) | exact HK.out))⟩; have n2_ : Aside0 (Below w0.heap.size w0 w10) := ⟨by rw [← hq_]; exact (by repeat (first | (with_reducible first | exact HB.out | apply below_alloc | apply pw_below_drewN | apply below_drew1 | refine below_set ?_ (IsS80.ge HI0.out)) | exact HB.out))⟩; clear HI0 HK HB hq_; have HI0 := n0_; have HK := n1_; have HB := n2_; clear n0_ n1_ n2_)); obtain ⟨HGz11, hgz11⟩ := HI0.out; have hcz11_0 := cellS80_0 HGz11; have hcz11_1 := cellS80_1 HGz11; have hfz11_0 := blk_frozen HGz11 0; have hfz11_1 := blk_frozen HGz11 1; clear HGz11 hgz11))
              go_roundg k1
              case measure => have := HK1.out; omega
              case rel => exact ⟨(Go.bits .or .i32 (wrap32 (x3_1 * 16)) (wrap32 (t390))), (wrap64 (x6_1 + 1)), (t388.extract 1 t388.size), (t389), (by first | rfl | (simp; done) | (simp [*]; done)), (by first | rfl | (simp; done) | (simp [*]; done)), H', ⟨by have := HK1.out; omega⟩, ⟨by repeat (first | (with_reducible first | exact HI0.out | apply IsS80.alloc | apply IsS80.drewN | apply IsS80.drew | apply IsS80.set_0 | apply IsS80.set_1) | exact HI0.out)⟩, ⟨by repeat (first | (with_reducible first | exact HK.out | apply KeepBut.set_ | apply keep_drewN | apply keep_drew | apply keep_alloc) | exact HK.out)⟩, ⟨by repeat (first | (with_reducible first | exact HB.out | apply below_alloc | apply pw_below_drewN | apply below_drew1 | refine below_set ?_ (IsS80.ge HI0.out)) | exact HB.out)⟩⟩
            · rw [if_neg c9] at H
              exact absurd H (by simp)
          · replace c8 := Bool.eq_false_iff.mpr c8
            subst c8
            have H1 : (some (0, t388, true)) = some (r1, r2, r3) := by rw [if_neg (show ¬ (false = true) by decide)] at H; exact H
            clear H
            have H := H1
            clear H1
            simp only [Option.some.injEq, Prod.mk.injEq] at H
            obtain ⟨rfl, rfl, rfl⟩ := H
            go_wp2_with (first | ((with_reducible refine gate_callee (f := 85) rfl ?_); refine goesL_ (some 10) rfl rfl Tryz.func85 (by kernel_rfl) rfl #[.pointer (some ⟨g, 0, none⟩)] rfl (by (try simp only [List.map_toArray, List.map_cons, List.map_nil]); first | done | rfl | (simp only [List.length_drop, List.length_take]; rfl)) ?_; (with_reducible refine (spec_reader_peek.calls g x1000_1 x1001_1 t387 t388 t389 w0 _ ?side1 ?side2 A3.out).mono ?_); (case side1 => repeat (first | (with_reducible first | exact HI0.out | apply IsS80.alloc | apply IsS80.drewN | apply IsS80.drew | apply IsS80.set_0 | apply IsS80.set_1) | exact HI0.out)); (case side2 => repeat (first | (with_reducible first | exact HB.out | apply below_alloc | apply pw_below_drewN | apply below_drew1 | refine below_set ?_ (IsS80.ge HI0.out)) | exact HB.out)); rintro e w12 ⟨rfl, hi, hb, hk⟩; refine ⟨_, rfl, ?_⟩; have n0_ := Aside0.mk (KeepBut.trans (by repeat (first | (with_reducible first | exact HK.out | apply KeepBut.set_ | apply keep_drewN | apply keep_drew | apply keep_alloc) | exact HK.out)) hk (.inl rfl)); have n1_ := Aside0.mk (hb); have n2_ := Aside0.mk (hi); clear HK; clear HB; clear HI0; have HK := n0_; have HB := n1_; have HI0 := n2_; clear n0_ n1_ n2_; (try clear hb); (try clear hb2); (try clear hk); (try clear hi)) | ((with_reducible refine gate_callee (f := 79) rfl ?_); refine goesL_ (some 11) rfl rfl Tryz.func79 (by kernel_rfl) rfl #[.int .u8 t387] rfl (by (try simp only [List.map_toArray, List.map_cons, List.map_nil]); first | done | rfl | (simp only [List.length_drop, List.length_take]; rfl)) ?_; (with_reducible refine (spec_digit.calls k1 t387 t390 false _ A4.out).mono ?_); rintro e w' ⟨rfl, ⟨nd, rfl⟩⟩; refine ⟨_, rfl, ?_⟩; (try (rw [drewN_self w12]; generalize hq_ : World.drewN w12 _ = w12; have n0_ : Aside0 (IsS80 w0 w12 g t388 t389) := ⟨by rw [← hq_]; exact (by repeat (first | (with_reducible first | exact HI0.out | apply IsS80.alloc | apply IsS80.drewN | apply IsS80.drew | apply IsS80.set_0 | apply IsS80.set_1) | exact HI0.out))⟩; have n1_ : Aside0 (KeepBut w w12 g none) := ⟨by rw [← hq_]; exact (by repeat (first | (with_reducible first | exact HK.out | apply KeepBut.set_ | apply keep_drewN | apply keep_drew | apply keep_alloc) | exact HK.out))⟩; have n2_ : Aside0 (Below w0.heap.size w0 w12) := ⟨by rw [← hq_]; exact (by repeat (first | (with_reducible first | exact HB.out | apply below_alloc | apply pw_below_drewN | apply below_drew1 | refine below_set ?_ (IsS80.ge HI0.out)) | exact HB.out))⟩; clear HI0 HK HB hq_; have HI0 := n0_; have HK := n1_; have HB := n2_; clear n0_ n1_ n2_)); obtain ⟨HGz13, hgz13⟩ := HI0.out; have hcz13_0 := cellS80_0 HGz13; have hcz13_1 := cellS80_1 HGz13; have hfz13_0 := blk_frozen HGz13 0; have hfz13_1 := blk_frozen HGz13 1; clear HGz13 hgz13))
            go_ret
            exact ⟨by first | rfl | (simp [errW_none, errW_some] <;> rfl) | (simp [*, errW_none, errW_some] <;> rfl), by repeat (first | (with_reducible first | exact HI0.out | apply IsS80.alloc | apply IsS80.drewN | apply IsS80.drew | apply IsS80.set_0 | apply IsS80.set_1) | exact HI0.out), by repeat (first | (with_reducible first | exact HB.out | apply below_alloc | apply pw_below_drewN | apply below_drew1 | refine below_set ?_ (IsS80.ge HI0.out)) | exact HB.out), by repeat (first | (with_reducible first | exact HK.out | apply KeepBut.set_ | apply keep_drewN | apply keep_drew | apply keep_alloc) | exact HK.out)⟩
      · rw [if_neg c2] at H
        have c2b0 : decide (x6_1 < 4) = false := decide_eq_false c2
        clear c2
        simp only [Option.some.injEq, Prod.mk.injEq] at H
        obtain ⟨rfl, rfl, rfl⟩ := H
        go_wp2
        go_ret
        exact ⟨by first | rfl | (simp [errW_none, errW_some] <;> rfl) | (simp [*, errW_none, errW_some] <;> rfl), by repeat (first | (with_reducible first | exact HI0.out | apply IsS80.alloc | apply IsS80.drewN | apply IsS80.drew | apply IsS80.set_0 | apply IsS80.set_1) | exact HI0.out), by repeat (first | (with_reducible first | exact HB.out | apply below_alloc | apply pw_below_drewN | apply below_drew1 | refine below_set ?_ (IsS80.ge HI0.out)) | exact HB.out), by repeat (first | (with_reducible first | exact HK.out | apply KeepBut.set_ | apply keep_drewN | apply keep_drew | apply keep_alloc) | exact HK.out)⟩

end Go.Proofs.YtkihaebaccdjdaaGreatDoor.PX
