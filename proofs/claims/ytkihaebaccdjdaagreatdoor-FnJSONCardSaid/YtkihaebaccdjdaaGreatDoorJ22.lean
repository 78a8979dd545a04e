import Derived.Test.YtkihaebaccdjdaaGreatDoorJ4
import Derived.Test.YtkihaebaccdjdaaGreatDoorJ20
import Derived.Test.YtkihaebaccdjdaaGreatDoorJ21
namespace Go.Proofs.YtkihaebaccdjdaaGreatDoor.PX
open Go.RowKit Go.Proofs.YtkihaebaccdjdaaGreatDoorW.PrintWords Go.Proofs.YtkihaebaccdjdaaGreatDoorW.PrintLast Go.Proofs.YtkihaebaccdjdaaGreatDoorW.PrintMore
attribute [local go_sem] max2_int min2_int max_two min_two max_three min_three max_four min_four   -- for this text's walks alone
set_option linter.unusedVariables false
set_option linter.unusedSimpArgs false

/-! ### spec_reader_hex: function 191 -/
def spec_reader_hex.l0 : Nat → Int → Int → ByteArray → Bool → Option (Int × ByteArray × Bool)
 | 0, _, _, _, _ => none
 | k + 1, x3, x6, x1000, x1001 => if x6 < 4 then ((spec_reader_peek.f x1000 x1001).bind fun bt382 => ((spec_digit.f k bt382.1).bind fun bt385 => (if bt382.2.1.toList = ([] : List UInt8) then (some (0, bt382.2.1, true)) else (if bt385.2 = true then (if 1 ≤ (bt382.2.1.size : Int) then (spec_reader_hex.l0 k (Go.bits .or .i32 (wrap32 (x3 * 16)) (wrap32 (bt385.1))) (wrap64 (x6 + 1)) (bt382.2.1.extract 1 bt382.2.1.size) bt382.2.2) else (none)) else (some (0, bt382.2.1, true)))))) else (some (x3, x1000, x1001))
def spec_reader_hex.f (k : Nat) (s0_0 : ByteArray) (s0_1 : Bool) : Option (Int × ByteArray × Bool) := spec_reader_hex.l0 k 0 0 s0_0 s0_1
set_option maxHeartbeats 8000000 in
set_option maxRecDepth 100000 in
theorem spec_reader_hex.calls (k : Nat) (g : Nat) (s0_0 : ByteArray) (s0_1 : Bool) (r1 : Int) (r2 : ByteArray) (r3 : Bool) (w0 w : World) (hI : IsS80 w0 w g s0_0 s0_1) (hB : Below w0.heap.size w0 w) (h : spec_reader_hex.f k s0_0 s0_1 = some (r1, r2, r3)) :
 Calls Tryz.prog 191 #[.pointer (some ⟨g, 0, none⟩)] w fun e w' => e = .returned (.int .i32 r1) ∧ IsS80 w0 w' g r2 r3 ∧ Below w0.heap.size w0 w' ∧ KeepBut w w' g none := by
 have HI0 := Aside0.mk hI
 have HK := Aside0.mk (KeepBut.refl w g none)
 have HL := Aside0.mk hB.size
 clear hI
 have HW0 := Aside0.mk hB.size
 have HB := Aside0.mk hB
 clear hB
 have H : (spec_reader_hex.l0 k 0 0 s0_0 s0_1) = some (r1, r2, r3) := h
 clear h
 have H' := Aside0.mk H
 clear H
 go_enter Tryz.func191, Tryz.ntmps191
 go_wp2
 go_loopg [3, 6] k (fun kq v3 v6 w' => ∃ (x3_1 : Int) (x6_1 : Int) (x1000_1 : ByteArray) (x1001_1 : Bool), v3 = .int .i32 x3_1 ∧ v6 = .int .i64 x6_1 ∧ Aside0 (spec_reader_hex.l0 kq x3_1 x6_1 x1000_1 x1001_1 = some (r1, r2, r3)) ∧ Aside0 (kq ≤ k) ∧ Aside0 (IsS80 w0 w' g x1000_1 x1001_1) ∧ Aside0 (KeepBut w w' g none) ∧ Aside0 (Below w0.heap.size w0 w'))
 case atStart => exact ⟨(0), (0), (s0_0), (s0_1), (by first | rfl | (simp; done) | (simp [*]; done)), (by first | rfl | (simp; done) | (simp [*]; done)), H', ⟨Nat.le_refl _⟩, ⟨by repeat ((with_reducible exact HI0.out))⟩, ⟨by repeat ((with_reducible exact HK.out))⟩, ⟨by repeat ((with_reducible exact HB.out))⟩⟩
 case round =>
  clear H'
  try clear c1
  obtain ⟨x3_1, x6_1, x1000_1, x1001_1, rfl, rfl, HA, HK1, HI0, HK, HB⟩ := hrel
  cases gk with
  | zero => exact absurd HA.out (by simp [spec_reader_hex.l0])
  | succ k1 =>
    have H := HA.out
    clear HA
    simp only [spec_reader_hex.l0] at H
    by_cases c2 : x6_1 < 4
    ·rw [if_pos c2] at H
     have c2b0 : decide (x6_1 < 4) = true := decide_eq_true c2
     clear c2
     replace H := Option.bind_eq_some_iff.mp H
     obtain ⟨⟨t382, t383, t384⟩, A30, H⟩ := H
     replace H : ((spec_digit.f k1 t382).bind fun bt385 => (if t383.toList = ([] : List UInt8) then (some (0, t383, true)) else (if bt385.2 = true then (if 1 ≤ (t383.size : Int) then (spec_reader_hex.l0 k1 (Go.bits .or .i32 (wrap32 (x3_1 * 16)) (wrap32 (bt385.1))) (wrap64 (x6_1 + 1)) (t383.extract 1 t383.size) t384) else (none)) else (some (0, t383, true))))) = some (r1, r2, r3) := H
     have A3 := Aside0.mk A30
     clear A30
     replace H := Option.bind_eq_some_iff.mp H
     obtain ⟨⟨t385, t386⟩, A40, H⟩ := H
     replace H : (if t383.toList = ([] : List UInt8) then (some (0, t383, true)) else (if t386 = true then (if 1 ≤ (t383.size : Int) then (spec_reader_hex.l0 k1 (Go.bits .or .i32 (wrap32 (x3_1 * 16)) (wrap32 (t385))) (wrap64 (x6_1 + 1)) (t383.extract 1 t383.size) t384) else (none)) else (some (0, t383, true)))) = some (r1, r2, r3) := H
     have A4 := Aside0.mk A40
     clear A40
     by_cases c5 : t383.toList = ([] : List UInt8)
     ·rw [if_pos c5] at H
      have c5b0 : (t383.toList == ([] : List UInt8)) = true := beq_iff_eq.mpr c5
      have c5b1 : (t383.toList != ([] : List UInt8)) = false := bne_eq_false_iff_eq.mpr c5
      clear c5
      simp only [Option.some.injEq, Prod.mk.injEq] at H
      obtain ⟨rfl, rfl, rfl⟩ := H
      go_wp2_with (first | ((with_reducible refine gate_callee (f := 85) rfl ?_); refine goesL_ (some 10) rfl rfl Tryz.func85 (by kernel_rfl) rfl #[.pointer (some ⟨g, 0, none⟩)] rfl (by (try simp only [List.map_toArray, List.map_cons, List.map_nil]); rfl) ?_; (with_reducible refine (spec_reader_peek.calls g x1000_1 x1001_1 t382 t383 t384 w0 _ ?side1 ?side2 A3.out).mono ?_); (case side1 => repeat ((with_reducible exact HI0.out))); (case side2 => repeat ((with_reducible exact HB.out))); rintro e w6 ⟨rfl, hi, hb, hk⟩; refine ⟨_, rfl, ?_⟩; have n0_ := Aside0.mk (KeepBut.trans (by repeat ((with_reducible exact HK.out))) hk (.inl rfl)); have n1_ := Aside0.mk (hb); have n2_ := Aside0.mk (hi); clear HK; clear HB; clear HI0; have HK := n0_; have HB := n1_; have HI0 := n2_; clear n0_ n1_ n2_; (try clear hb); (try clear hb2); (try clear hk); (try clear hi)) | ((with_reducible refine gate_callee (f := 79) rfl ?_); refine goesL_ (some 11) rfl rfl Tryz.func79 (by kernel_rfl) rfl #[.int .u8 t382] rfl (by (try simp only [List.map_toArray, List.map_cons, List.map_nil]); rfl) ?_; (with_reducible refine (spec_digit.calls k1 t382 t385 t386 _ A4.out).mono ?_); rintro e w' ⟨rfl, ⟨nd, rfl⟩⟩; refine ⟨_, rfl, ?_⟩; (try (rw [drewN_self w6]; generalize hq_ : World.drewN w6 _ = w6; have n0_ : Aside0 (IsS80 w0 w6 g t383 t384) := ⟨by rw [← hq_]; exact (by repeat ((with_reducible first | exact HI0.out | apply IsS80.drewN )))⟩; have n1_ : Aside0 (KeepBut w w6 g none) := ⟨by rw [← hq_]; exact (by repeat ((with_reducible first | exact HK.out | apply keep_drewN )))⟩; have n2_ : Aside0 (Below w0.heap.size w0 w6) := ⟨by rw [← hq_]; exact (by repeat ((with_reducible first | exact HB.out | apply pw_below_drewN )))⟩; clear HI0 HK HB hq_; have HI0 := n0_; have HK := n1_; have HB := n2_; clear n0_ n1_ n2_)); obtain ⟨HGz7, hgz7⟩ := HI0.out; have hcz7_0 := cellS80_0 HGz7; have hcz7_1 := cellS80_1 HGz7; have hfz7_0 := blk_frozen HGz7 0; have hfz7_1 := blk_frozen HGz7 1; clear HGz7 hgz7))
      go_ret
      exact ⟨by rfl, by repeat ((with_reducible first | exact HI0.out | apply IsS80.set_1)), by repeat ((with_reducible first | exact HB.out | refine below_set ?_ (IsS80.ge HI0.out))), by repeat ((with_reducible first | exact HK.out | apply KeepBut.set_ ))⟩
     ·rw [if_neg c5] at H
      have c5b0 : (t383.toList == ([] : List UInt8)) = false := beq_eq_false_iff_ne.mpr c5
      have c5b1 : (t383.toList != ([] : List UInt8)) = true := bne_iff_ne.mpr c5
      by_cases c8 : t386 = true
      ·subst c8
       have H1 : (if 1 ≤ (t383.size : Int) then (spec_reader_hex.l0 k1 (Go.bits .or .i32 (wrap32 (x3_1 * 16)) (wrap32 (t385))) (wrap64 (x6_1 + 1)) (t383.extract 1 t383.size) t384) else (none)) = some (r1, r2, r3) := by rw [if_pos rfl] at H; exact H
       clear H
       have H := H1
       clear H1
       by_cases c9 : 1 ≤ (t383.size : Int)
       ·rw [if_pos c9] at H
        have c9b0 := eq_true c9
        have c9b1 : decide (1 ≤ (t383.size : Int)) = true := decide_eq_true c9
        clear c9
        have H' := Aside0.mk H
        clear H
        go_wp2_with (first | ((with_reducible refine gate_callee (f := 85) rfl ?_); refine goesL_ (some 10) rfl rfl Tryz.func85 (by kernel_rfl) rfl #[.pointer (some ⟨g, 0, none⟩)] rfl (by (try simp only [List.map_toArray, List.map_cons, List.map_nil]); rfl) ?_; (with_reducible refine (spec_reader_peek.calls g x1000_1 x1001_1 t382 t383 t384 w0 _ ?side1 ?side2 A3.out).mono ?_); (case side1 => repeat ((with_reducible exact HI0.out))); (case side2 => repeat ((with_reducible exact HB.out))); rintro e w10 ⟨rfl, hi, hb, hk⟩; refine ⟨_, rfl, ?_⟩; have n0_ := Aside0.mk (KeepBut.trans (by repeat ((with_reducible exact HK.out))) hk (.inl rfl)); have n1_ := Aside0.mk (hb); have n2_ := Aside0.mk (hi); clear HK; clear HB; clear HI0; have HK := n0_; have HB := n1_; have HI0 := n2_; clear n0_ n1_ n2_; (try clear hb); (try clear hb2); (try clear hk); (try clear hi)) | ((with_reducible refine gate_callee (f := 79) rfl ?_); refine goesL_ (some 11) rfl rfl Tryz.func79 (by kernel_rfl) rfl #[.int .u8 t382] rfl (by (try simp only [List.map_toArray, List.map_cons, List.map_nil]); rfl) ?_; (with_reducible refine (spec_digit.calls k1 t382 t385 true _ A4.out).mono ?_); rintro e w' ⟨rfl, ⟨nd, rfl⟩⟩; refine ⟨_, rfl, ?_⟩; (try (rw [drewN_self w10]; generalize hq_ : World.drewN w10 _ = w10; have n0_ : Aside0 (IsS80 w0 w10 g t383 t384) := ⟨by rw [← hq_]; exact (by repeat ((with_reducible first | exact HI0.out | apply IsS80.drewN )))⟩; have n1_ : Aside0 (KeepBut w w10 g none) := ⟨by rw [← hq_]; exact (by repeat ((with_reducible first | exact HK.out | apply keep_drewN )))⟩; have n2_ : Aside0 (Below w0.heap.size w0 w10) := ⟨by rw [← hq_]; exact (by repeat ((with_reducible first | exact HB.out | apply pw_below_drewN )))⟩; clear HI0 HK HB hq_; have HI0 := n0_; have HK := n1_; have HB := n2_; clear n0_ n1_ n2_)); obtain ⟨HGz11, hgz11⟩ := HI0.out; have hcz11_0 := cellS80_0 HGz11; have hcz11_1 := cellS80_1 HGz11; have hfz11_0 := blk_frozen HGz11 0; have hfz11_1 := blk_frozen HGz11 1; clear HGz11 hgz11))
        go_roundg k1
        case measure => have := HK1.out; omega
        case rel => exact ⟨(Go.bits .or .i32 (wrap32 (x3_1 * 16)) (wrap32 (t385))), (wrap64 (x6_1 + 1)), (t383.extract 1 t383.size), (t384), (by first | rfl | (simp; done) | (simp [*]; done)), (by first | rfl | (simp; done) | (simp [*]; done)), H', ⟨by have := HK1.out; omega⟩, ⟨by repeat ((with_reducible first | exact HI0.out | apply IsS80.set_0 ))⟩, ⟨by repeat ((with_reducible first | exact HK.out | apply KeepBut.set_ ))⟩, ⟨by repeat ((with_reducible first | exact HB.out | refine below_set ?_ (IsS80.ge HI0.out)))⟩⟩
       ·rw [if_neg c9] at H
        exact absurd H (by simp)
      ·replace c8 := Bool.eq_false_iff.mpr c8
       subst c8
       have H1 : (some (0, t383, true)) = some (r1, r2, r3) := by rw [if_neg (show ¬ (false = true) by decide)] at H; exact H
       clear H
       have H := H1
       clear H1
       simp only [Option.some.injEq, Prod.mk.injEq] at H
       obtain ⟨rfl, rfl, rfl⟩ := H
       go_wp2_with (first | ((with_reducible refine gate_callee (f := 85) rfl ?_); refine goesL_ (some 10) rfl rfl Tryz.func85 (by kernel_rfl) rfl #[.pointer (some ⟨g, 0, none⟩)] rfl (by (try simp only [List.map_toArray, List.map_cons, List.map_nil]); rfl) ?_; (with_reducible refine (spec_reader_peek.calls g x1000_1 x1001_1 t382 t383 t384 w0 _ ?side1 ?side2 A3.out).mono ?_); (case side1 => repeat ((with_reducible exact HI0.out))); (case side2 => repeat ((with_reducible exact HB.out))); rintro e w12 ⟨rfl, hi, hb, hk⟩; refine ⟨_, rfl, ?_⟩; have n0_ := Aside0.mk (KeepBut.trans (by repeat ((with_reducible exact HK.out))) hk (.inl rfl)); have n1_ := Aside0.mk (hb); have n2_ := Aside0.mk (hi); clear HK; clear HB; clear HI0; have HK := n0_; have HB := n1_; have HI0 := n2_; clear n0_ n1_ n2_; (try clear hb); (try clear hb2); (try clear hk); (try clear hi)) | ((with_reducible refine gate_callee (f := 79) rfl ?_); refine goesL_ (some 11) rfl rfl Tryz.func79 (by kernel_rfl) rfl #[.int .u8 t382] rfl (by (try simp only [List.map_toArray, List.map_cons, List.map_nil]); rfl) ?_; (with_reducible refine (spec_digit.calls k1 t382 t385 false _ A4.out).mono ?_); rintro e w' ⟨rfl, ⟨nd, rfl⟩⟩; refine ⟨_, rfl, ?_⟩; (try (rw [drewN_self w12]; generalize hq_ : World.drewN w12 _ = w12; have n0_ : Aside0 (IsS80 w0 w12 g t383 t384) := ⟨by rw [← hq_]; exact (by repeat ((with_reducible first | exact HI0.out | apply IsS80.drewN )))⟩; have n1_ : Aside0 (KeepBut w w12 g none) := ⟨by rw [← hq_]; exact (by repeat ((with_reducible first | exact HK.out | apply keep_drewN )))⟩; have n2_ : Aside0 (Below w0.heap.size w0 w12) := ⟨by rw [← hq_]; exact (by repeat ((with_reducible first | exact HB.out | apply pw_below_drewN )))⟩; clear HI0 HK HB hq_; have HI0 := n0_; have HK := n1_; have HB := n2_; clear n0_ n1_ n2_)); obtain ⟨HGz13, hgz13⟩ := HI0.out; have hcz13_0 := cellS80_0 HGz13; have hcz13_1 := cellS80_1 HGz13; have hfz13_0 := blk_frozen HGz13 0; have hfz13_1 := blk_frozen HGz13 1; clear HGz13 hgz13))
       go_ret
       exact ⟨by rfl, by repeat ((with_reducible first | exact HI0.out | apply IsS80.set_1)), by repeat ((with_reducible first | exact HB.out | refine below_set ?_ (IsS80.ge HI0.out))), by repeat ((with_reducible first | exact HK.out | apply KeepBut.set_ ))⟩
    ·rw [if_neg c2] at H
     have c2b0 : decide (x6_1 < 4) = false := decide_eq_false c2
     clear c2
     simp only [Option.some.injEq, Prod.mk.injEq] at H
     obtain ⟨rfl, rfl, rfl⟩ := H
     go_wp2
     go_ret
     exact ⟨by rfl, by repeat ((with_reducible exact HI0.out)), by repeat ((with_reducible exact HB.out)), by repeat ((with_reducible exact HK.out))⟩

end Go.Proofs.YtkihaebaccdjdaaGreatDoor.PX
namespace Go.Proofs.YtkihaebaccdjdaaGreatDoor.PX
open Go.RowKit Go.Proofs.YtkihaebaccdjdaaGreatDoorW.PrintWords Go.Proofs.YtkihaebaccdjdaaGreatDoorW.PrintLast Go.Proofs.YtkihaebaccdjdaaGreatDoorW.PrintMore
attribute [local go_sem] max2_int min2_int max_two min_two max_three min_three max_four min_four   -- for this text's walks alone
set_option linter.unusedVariables false
set_option linter.unusedSimpArgs false

/-! ### spec_utf8: function 192 -/
def spec_utf8.f (a0 : Int) : Option (ByteArray) := if a0 < 128 then (some (strOfNums (([(a0) % 256] : List Int)))) else (if a0 < 2048 then (some (strOfNums (([Go.bits .or .u8 192 ((a0 / 64) % 256), Go.bits .or .u8 128 ((Go.bits .and .i32 a0 63) % 256)] : List Int)))) else (if a0 < 65536 then (some (strOfNums (([Go.bits .or .u8 224 ((a0 / 4096) % 256), Go.bits .or .u8 128 ((Go.bits .and .i32 (a0 / 64) 63) % 256), Go.bits .or .u8 128 ((Go.bits .and .i32 a0 63) % 256)] : List Int)))) else (some (strOfNums (([Go.bits .or .u8 240 ((a0 / 262144) % 256), Go.bits .or .u8 128 ((Go.bits .and .i32 (a0 / 4096) 63) % 256), Go.bits .or .u8 128 ((Go.bits .and .i32 (a0 / 64) 63) % 256), Go.bits .or .u8 128 ((Go.bits .and .i32 a0 63) % 256)] : List Int))))))
set_option maxHeartbeats 8000000 in
set_option maxRecDepth 100000 in
theorem spec_utf8.calls (a0 : Int) (r : ByteArray) (w : World) (h : spec_utf8.f a0 = some r) :
 Calls Tryz.prog 192 #[.int .i32 a0] w fun e w' => e = .returned (.string r) ∧ Below w.heap.size w w' := by
 have HB := Aside0.mk (Below.refl w.heap.size w)
 have H : (if a0 < 128 then (some (strOfNums (([(a0) % 256] : List Int)))) else (if a0 < 2048 then (some (strOfNums (([Go.bits .or .u8 192 ((a0 / 64) % 256), Go.bits .or .u8 128 ((Go.bits .and .i32 a0 63) % 256)] : List Int)))) else (if a0 < 65536 then (some (strOfNums (([Go.bits .or .u8 224 ((a0 / 4096) % 256), Go.bits .or .u8 128 ((Go.bits .and .i32 (a0 / 64) 63) % 256), Go.bits .or .u8 128 ((Go.bits .and .i32 a0 63) % 256)] : List Int)))) else (some (strOfNums (([Go.bits .or .u8 240 ((a0 / 262144) % 256), Go.bits .or .u8 128 ((Go.bits .and .i32 (a0 / 4096) 63) % 256), Go.bits .or .u8 128 ((Go.bits .and .i32 (a0 / 64) 63) % 256), Go.bits .or .u8 128 ((Go.bits .and .i32 a0 63) % 256)] : List Int))))))) = some r := h
 clear h
 by_cases c2 : a0 < 128
 ·rw [if_pos c2] at H
  have c2b0 : decide (a0 < 128) = true := decide_eq_true c2
  clear c2
  obtain ⟨y387, hy387⟩ : ∃ y_ : List Int, y_ = (([(a0) % 256] : List Int)) := ⟨_, rfl⟩
  replace H : (some (strOfNums y387)) = some r := by (rw [hy387]; with_reducible exact H)
  have Ny387 := Aside0.mk hy387
  clear hy387
  obtain rfl := Option.some.inj H
  go_enter Tryz.func192, Tryz.ntmps192
  go_wp2_with (first | ((with_reducible refine gate_dst (N := 8) rfl ?_); refine Kd.R_lit (Kd.int .u8) _ 5 ?hg (N := 8) ?hd (xs := ([(a0) % 256] : List Int)) (inner := [.int .u8 ((a0) % 256)]) (ok := fun _ => True) (okp := fun _ => True) ?hr ?hp (fun _ hk => hk) trivial (Below.refl _ _) (Nat.le_refl _) (by simp) ?_; (case hd => rfl); (case hg => rfl); (case hr => first | (go_simp; done) | (go_simp; rfl)); (case hp => exact (Reps.one (show Kd.M (Kd.int .u8) _ _ _ ((a0) % 256) [.int .u8 ((a0) % 256)] from rfl) (Reps.none _ _))); intro v388 w3 ho4 hb hg_ hnew_; clear hg_ hnew_; (rw [← Ny387.out] at ho4); have n0_ := Aside0.mk (Kd.R_lower ho4 (below_size (by repeat ((with_reducible exact HB.out))))); have n1_ := Aside0.mk (below_step (by repeat ((with_reducible exact HB.out))) hb); clear HB; have HO389 := n0_; have HB := n1_; clear n0_ n1_; clear hb ho4; have hcv5 := own_string (P := Tryz.prog) Tryz.underlying22 Tryz.underlying5 Tryz.underlying9 (Kd.own_of_R HO389.out)))
  go_ret
  exact ⟨by rfl, by repeat ((with_reducible exact HB.out))⟩
 ·rw [if_neg c2] at H
  have c2b0 : decide (a0 < 128) = false := decide_eq_false c2
  clear c2
  by_cases c6 : a0 < 2048
  ·rw [if_pos c6] at H
   have c6b0 : decide (a0 < 2048) = true := decide_eq_true c6
   clear c6
   obtain ⟨y390, hy390⟩ : ∃ y_ : List Int, y_ = (([Go.bits .or .u8 192 ((a0 / 64) % 256), Go.bits .or .u8 128 ((Go.bits .and .i32 a0 63) % 256)] : List Int)) := ⟨_, rfl⟩
   replace H : (some (strOfNums y390)) = some r := by (rw [hy390]; with_reducible exact H)
   have Ny390 := Aside0.mk hy390
   clear hy390
   obtain rfl := Option.some.inj H
   go_enter Tryz.func192, Tryz.ntmps192
   go_wp2_with (first | ((with_reducible refine gate_dst (N := 21) rfl ?_); refine Kd.R_lit (Kd.int .u8) _ 5 ?hg (N := 21) ?hd (xs := ([Go.bits .or .u8 192 ((a0 / 64) % 256), Go.bits .or .u8 128 ((Go.bits .and .i32 a0 63) % 256)] : List Int)) (inner := [.int .u8 (Go.bits .or .u8 192 ((a0 / 64) % 256)), .int .u8 (Go.bits .or .u8 128 ((Go.bits .and .i32 a0 63) % 256))]) (ok := fun _ => True) (okp := fun _ => True) ?hr ?hp (fun _ hk => hk) trivial (Below.refl _ _) (Nat.le_refl _) (by simp) ?_; (case hd => rfl); (case hg => rfl); (case hr => first | (go_simp; done) | (go_simp; rfl)); (case hp => exact (Reps.one (show Kd.M (Kd.int .u8) _ _ _ (Go.bits .or .u8 192 ((a0 / 64) % 256)) [.int .u8 (Go.bits .or .u8 192 ((a0 / 64) % 256))] from rfl) (Reps.one (show Kd.M (Kd.int .u8) _ _ _ (Go.bits .or .u8 128 ((Go.bits .and .i32 a0 63) % 256)) [.int .u8 (Go.bits .or .u8 128 ((Go.bits .and .i32 a0 63) % 256))] from rfl) (Reps.none _ _)))); intro v391 w7 ho8 hb hg_ hnew_; clear hg_ hnew_; (rw [← Ny390.out] at ho8); have n0_ := Aside0.mk (Kd.R_lower ho8 (below_size (by repeat ((with_reducible exact HB.out))))); have n1_ := Aside0.mk (below_step (by repeat ((with_reducible exact HB.out))) hb); clear HB; have HO392 := n0_; have HB := n1_; clear n0_ n1_; clear hb ho8; have hcv9 := own_string (P := Tryz.prog) Tryz.underlying22 Tryz.underlying5 Tryz.underlying9 (Kd.own_of_R HO392.out)))
   go_ret
   exact ⟨by rfl, by repeat ((with_reducible exact HB.out))⟩
  ·rw [if_neg c6] at H
   have c6b0 : decide (a0 < 2048) = false := decide_eq_false c6
   clear c6
   by_cases c10 : a0 < 65536
   ·rw [if_pos c10] at H
    have c10b0 : decide (a0 < 65536) = true := decide_eq_true c10
    clear c10
    obtain ⟨y393, hy393⟩ : ∃ y_ : List Int, y_ = (([Go.bits .or .u8 224 ((a0 / 4096) % 256), Go.bits .or .u8 128 ((Go.bits .and .i32 (a0 / 64) 63) % 256), Go.bits .or .u8 128 ((Go.bits .and .i32 a0 63) % 256)] : List Int)) := ⟨_, rfl⟩
    replace H : (some (strOfNums y393)) = some r := by (rw [hy393]; with_reducible exact H)
    have Ny393 := Aside0.mk hy393
    clear hy393
    obtain rfl := Option.some.inj H
    go_enter Tryz.func192, Tryz.ntmps192
    go_wp2_with (first | ((with_reducible refine gate_dst (N := 39) rfl ?_); refine Kd.R_lit (Kd.int .u8) _ 5 ?hg (N := 39) ?hd (xs := ([Go.bits .or .u8 224 ((a0 / 4096) % 256), Go.bits .or .u8 128 ((Go.bits .and .i32 (a0 / 64) 63) % 256), Go.bits .or .u8 128 ((Go.bits .and .i32 a0 63) % 256)] : List Int)) (inner := [.int .u8 (Go.bits .or .u8 224 ((a0 / 4096) % 256)), .int .u8 (Go.bits .or .u8 128 ((Go.bits .and .i32 (a0 / 64) 63) % 256)), .int .u8 (Go.bits .or .u8 128 ((Go.bits .and .i32 a0 63) % 256))]) (ok := fun _ => True) (okp := fun _ => True) ?hr ?hp (fun _ hk => hk) trivial (Below.refl _ _) (Nat.le_refl _) (by simp) ?_; (case hd => rfl); (case hg => rfl); (case hr => first | (go_simp; done) | (go_simp; rfl)); (case hp => exact (Reps.one (show Kd.M (Kd.int .u8) _ _ _ (Go.bits .or .u8 224 ((a0 / 4096) % 256)) [.int .u8 (Go.bits .or .u8 224 ((a0 / 4096) % 256))] from rfl) (Reps.one (show Kd.M (Kd.int .u8) _ _ _ (Go.bits .or .u8 128 ((Go.bits .and .i32 (a0 / 64) 63) % 256)) [.int .u8 (Go.bits .or .u8 128 ((Go.bits .and .i32 (a0 / 64) 63) % 256))] from rfl) (Reps.one (show Kd.M (Kd.int .u8) _ _ _ (Go.bits .or .u8 128 ((Go.bits .and .i32 a0 63) % 256)) [.int .u8 (Go.bits .or .u8 128 ((Go.bits .and .i32 a0 63) % 256))] from rfl) (Reps.none _ _))))); intro v394 w11 ho12 hb hg_ hnew_; clear hg_ hnew_; (rw [← Ny393.out] at ho12); have n0_ := Aside0.mk (Kd.R_lower ho12 (below_size (by repeat ((with_reducible exact HB.out))))); have n1_ := Aside0.mk (below_step (by repeat ((with_reducible exact HB.out))) hb); clear HB; have HO395 := n0_; have HB := n1_; clear n0_ n1_; clear hb ho12; have hcv13 := own_string (P := Tryz.prog) Tryz.underlying22 Tryz.underlying5 Tryz.underlying9 (Kd.own_of_R HO395.out)))
    go_ret
    exact ⟨by rfl, by repeat ((with_reducible exact HB.out))⟩
   ·rw [if_neg c10] at H
    have c10b0 : decide (a0 < 65536) = false := decide_eq_false c10
    clear c10
    obtain ⟨y396, hy396⟩ : ∃ y_ : List Int, y_ = (([Go.bits .or .u8 240 ((a0 / 262144) % 256), Go.bits .or .u8 128 ((Go.bits .and .i32 (a0 / 4096) 63) % 256), Go.bits .or .u8 128 ((Go.bits .and .i32 (a0 / 64) 63) % 256), Go.bits .or .u8 128 ((Go.bits .and .i32 a0 63) % 256)] : List Int)) := ⟨_, rfl⟩
    replace H : (some (strOfNums y396)) = some r := by (rw [hy396]; with_reducible exact H)
    have Ny396 := Aside0.mk hy396
    clear hy396
    obtain rfl := Option.some.inj H
    go_enter Tryz.func192, Tryz.ntmps192
    go_wp2_with (first | ((with_reducible refine gate_dst (N := 59) rfl ?_); refine Kd.R_lit (Kd.int .u8) _ 5 ?hg (N := 59) ?hd (xs := ([Go.bits .or .u8 240 ((a0 / 262144) % 256), Go.bits .or .u8 128 ((Go.bits .and .i32 (a0 / 4096) 63) % 256), Go.bits .or .u8 128 ((Go.bits .and .i32 (a0 / 64) 63) % 256), Go.bits .or .u8 128 ((Go.bits .and .i32 a0 63) % 256)] : List Int)) (inner := [.int .u8 (Go.bits .or .u8 240 ((a0 / 262144) % 256)), .int .u8 (Go.bits .or .u8 128 ((Go.bits .and .i32 (a0 / 4096) 63) % 256)), .int .u8 (Go.bits .or .u8 128 ((Go.bits .and .i32 (a0 / 64) 63) % 256)), .int .u8 (Go.bits .or .u8 128 ((Go.bits .and .i32 a0 63) % 256))]) (ok := fun _ => True) (okp := fun _ => True) ?hr ?hp (fun _ hk => hk) trivial (Below.refl _ _) (Nat.le_refl _) (by simp) ?_; (case hd => rfl); (case hg => rfl); (case hr => first | (go_simp; done) | (go_simp; rfl)); (case hp => exact (Reps.one (show Kd.M (Kd.int .u8) _ _ _ (Go.bits .or .u8 240 ((a0 / 262144) % 256)) [.int .u8 (Go.bits .or .u8 240 ((a0 / 262144) % 256))] from rfl) (Reps.one (show Kd.M (Kd.int .u8) _ _ _ (Go.bits .or .u8 128 ((Go.bits .and .i32 (a0 / 4096) 63) % 256)) [.int .u8 (Go.bits .or .u8 128 ((Go.bits .and .i32 (a0 / 4096) 63) % 256))] from rfl) (Reps.one (show Kd.M (Kd.int .u8) _ _ _ (Go.bits .or .u8 128 ((Go.bits .and .i32 (a0 / 64) 63) % 256)) [.int .u8 (Go.bits .or .u8 128 ((Go.bits .and .i32 (a0 / 64) 63) % 256))] from rfl) (Reps.one (show Kd.M (Kd.int .u8) _ _ _ (Go.bits .or .u8 128 ((Go.bits .and .i32 a0 63) % 256)) [.int .u8 (Go.bits .or .u8 128 ((Go.bits .and .i32 a0 63) % 256))] from rfl) (Reps.none _ _)))))); intro v397 w14 ho15 hb hg_ hnew_; clear hg_ hnew_; (rw [← Ny396.out] at ho15); have n0_ := Aside0.mk (Kd.R_lower ho15 (below_size (by repeat ((with_reducible exact HB.out))))); have n1_ := Aside0.mk (below_step (by repeat ((with_reducible exact HB.out))) hb); clear HB; have HO398 := n0_; have HB := n1_; clear n0_ n1_; clear hb ho15; have hcv16 := own_string (P := Tryz.prog) Tryz.underlying22 Tryz.underlying5 Tryz.underlying9 (Kd.own_of_R HO398.out)))
    go_ret
    exact ⟨by rfl, by repeat ((with_reducible exact HB.out))⟩

end Go.Proofs.YtkihaebaccdjdaaGreatDoor.PX
