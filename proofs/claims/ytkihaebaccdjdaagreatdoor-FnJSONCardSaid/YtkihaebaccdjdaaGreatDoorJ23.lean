import Derived.Test.YtkihaebaccdjdaaGreatDoorJ4
import Derived.Test.YtkihaebaccdjdaaGreatDoorJ20
import Derived.Test.YtkihaebaccdjdaaGreatDoorJ21
import Derived.Test.YtkihaebaccdjdaaGreatDoorJ22
namespace Go.Proofs.YtkihaebaccdjdaaGreatDoor.PX
open Go.RowKit Go.Proofs.YtkihaebaccdjdaaGreatDoorW.PrintWords Go.Proofs.YtkihaebaccdjdaaGreatDoorW.PrintLast Go.Proofs.YtkihaebaccdjdaaGreatDoorW.PrintMore
attribute [local go_sem] max2_int min2_int max_two min_two max_three min_three max_four min_four   -- for this text's walks alone
set_option linter.unusedVariables false
set_option linter.unusedSimpArgs false

/-! ### spec_reader_escape: function 150 -/
mutual
def spec_reader_escape.j0 : Nat → Int → Int → Bool → ByteArray → Bool → Option (ByteArray × ByteArray × Bool)
 | 0, _, _, _, _, _ => none
 | k + 1, x3, x24, x25, x1000, x1001 => if x25 = true then (some (strOfNums (([x3] : List Int)), x1000, x1001)) else (if x24 = 98 then (some ((⟨#[8]⟩ : ByteArray), x1000, x1001)) else (if x24 = 102 then (some ((⟨#[12]⟩ : ByteArray), x1000, x1001)) else (if x24 = 110 then (some ((⟨#[10]⟩ : ByteArray), x1000, x1001)) else (if x24 = 114 then (some ((⟨#[13]⟩ : ByteArray), x1000, x1001)) else (if x24 = 116 then (some ((⟨#[9]⟩ : ByteArray), x1000, x1001)) else (if x24 = 117 then ((spec_reader_hex.f k x1000 x1001).bind fun bt405 => (if bt405.1 ≥ 55296 then (if bt405.1 < 56320 then ((spec_reader_take.f bt405.2.1 bt405.2.2 (⟨#[92, 117]⟩ : ByteArray)).bind fun bt408 => (spec_reader_escape.j1 k bt405.1 bt408.1 bt408.2.1 bt408.2.2)) else (spec_reader_escape.j1 k bt405.1 false bt405.2.1 bt405.2.2)) else (spec_reader_escape.j1 k bt405.1 false bt405.2.1 bt405.2.2))) else (some ((⟨#[]⟩ : ByteArray), x1000, true))))))))
def spec_reader_escape.j1 : Nat → Int → Bool → ByteArray → Bool → Option (ByteArray × ByteArray × Bool)
 | 0, _, _, _, _ => none
 | k + 1, x4, x55, x1000, x1001 => if x55 = true then ((spec_reader_hex.f k x1000 x1001).bind fun bt411 => (if bt411.1 < 56320 then (spec_reader_escape.j2 k x4 bt411.1 true bt411.2.1 bt411.2.2) else (spec_reader_escape.j2 k x4 bt411.1 (decide (bt411.1 ≥ 57344)) bt411.2.1 bt411.2.2))) else (if x4 ≥ 55296 then (if x4 < 57344 then (some ((⟨#[]⟩ : ByteArray), x1000, true)) else ((spec_utf8.f x4).bind fun t415 => (some (t415, x1000, x1001)))) else ((spec_utf8.f x4).bind fun t416 => (some (t416, x1000, x1001))))
def spec_reader_escape.j2 : Nat → Int → Int → Bool → ByteArray → Bool → Option (ByteArray × ByteArray × Bool)
 | 0, _, _, _, _, _ => none
 | k + 1, x4, x5, x63, x1000, x1001 => if x63 = true then (some ((⟨#[]⟩ : ByteArray), x1000, true)) else ((spec_utf8.f (wrap32 ((wrap32 (65536 + (wrap32 ((wrap32 (x4 - 55296)) * 1024)))) + (wrap32 (x5 - 56320))))).bind fun t414 => (some (t414, x1000, x1001)))
end
def spec_reader_escape.f (k : Nat) (s0_0 : ByteArray) (s0_1 : Bool) : Option (ByteArray × ByteArray × Bool) := (spec_reader_peek.f s0_0 s0_1).bind fun bt399 => (if bt399.2.1.toList = ([] : List UInt8) then (some ((⟨#[]⟩ : ByteArray), bt399.2.1, true)) else (if 1 ≤ (bt399.2.1.size : Int) then (if bt399.1 = 34 then (spec_reader_escape.j0 k bt399.1 bt399.1 (bt399.1 == 34) (bt399.2.1.extract 1 bt399.2.1.size) bt399.2.2) else (if bt399.1 = 92 then (spec_reader_escape.j0 k bt399.1 bt399.1 (bt399.1 == 92) (bt399.2.1.extract 1 bt399.2.1.size) bt399.2.2) else (spec_reader_escape.j0 k bt399.1 bt399.1 (bt399.1 == 47) (bt399.2.1.extract 1 bt399.2.1.size) bt399.2.2))) else (none)))
set_option maxHeartbeats 8000000 in
set_option maxRecDepth 100000 in
theorem spec_reader_escape.calls (k : Nat) (g : Nat) (s0_0 : ByteArray) (s0_1 : Bool) (r1 : ByteArray) (r2 : ByteArray) (r3 : Bool) (w0 w : World) (hI : IsS80 w0 w g s0_0 s0_1) (hB : Below w0.heap.size w0 w) (h : spec_reader_escape.f k s0_0 s0_1 = some (r1, r2, r3)) :
 Calls Tryz.prog 150 #[.pointer (some ⟨g, 0, none⟩)] w fun e w' => e = .returned (.string r1) ∧ IsS80 w0 w' g r2 r3 ∧ Below w0.heap.size w0 w' ∧ KeepBut w w' g none := by
 have HI0 := Aside0.mk hI
 have HK := Aside0.mk (KeepBut.refl w g none)
 have HL := Aside0.mk hB.size
 clear hI
 have HW0 := Aside0.mk hB.size
 have HB := Aside0.mk hB
 clear hB
 have H : ((spec_reader_peek.f s0_0 s0_1).bind fun bt399 => (if bt399.2.1.toList = ([] : List UInt8) then (some ((⟨#[]⟩ : ByteArray), bt399.2.1, true)) else (if 1 ≤ (bt399.2.1.size : Int) then (if bt399.1 = 34 then (spec_reader_escape.j0 k bt399.1 bt399.1 (bt399.1 == 34) (bt399.2.1.extract 1 bt399.2.1.size) bt399.2.2) else (if bt399.1 = 92 then (spec_reader_escape.j0 k bt399.1 bt399.1 (bt399.1 == 92) (bt399.2.1.extract 1 bt399.2.1.size) bt399.2.2) else (spec_reader_escape.j0 k bt399.1 bt399.1 (bt399.1 == 47) (bt399.2.1.extract 1 bt399.2.1.size) bt399.2.2))) else (none)))) = some (r1, r2, r3) := h
 clear h
 replace H := Option.bind_eq_some_iff.mp H
 obtain ⟨⟨t399, t400, t401⟩, A20, H⟩ := H
 replace H : (if t400.toList = ([] : List UInt8) then (some ((⟨#[]⟩ : ByteArray), t400, true)) else (if 1 ≤ (t400.size : Int) then (if t399 = 34 then (spec_reader_escape.j0 k t399 t399 (t399 == 34) (t400.extract 1 t400.size) t401) else (if t399 = 92 then (spec_reader_escape.j0 k t399 t399 (t399 == 92) (t400.extract 1 t400.size) t401) else (spec_reader_escape.j0 k t399 t399 (t399 == 47) (t400.extract 1 t400.size) t401))) else (none))) = some (r1, r2, r3) := H
 have A2 := Aside0.mk A20
 clear A20
 by_cases c3 : t400.toList = ([] : List UInt8)
 ·rw [if_pos c3] at H
  have c3b0 : (t400.toList == ([] : List UInt8)) = true := beq_iff_eq.mpr c3
  have c3b1 : (t400.toList != ([] : List UInt8)) = false := bne_eq_false_iff_eq.mpr c3
  clear c3
  simp only [Option.some.injEq, Prod.mk.injEq] at H
  obtain ⟨rfl, rfl, rfl⟩ := H
  go_enter Tryz.func150, Tryz.ntmps150
  go_wp2_with (first | ((with_reducible refine gate_callee (f := 85) rfl ?_); refine goesL_ (some 7) rfl rfl Tryz.func85 (by kernel_rfl) rfl #[.pointer (some ⟨g, 0, none⟩)] rfl (by (try simp only [List.map_toArray, List.map_cons, List.map_nil]); rfl) ?_; (with_reducible refine (spec_reader_peek.calls g s0_0 s0_1 t399 t400 t401 w0 _ ?side1 ?side2 A2.out).mono ?_); (case side1 => repeat ((with_reducible exact HI0.out))); (case side2 => repeat ((with_reducible exact HB.out))); rintro e w4 ⟨rfl, hi, hb, hk⟩; refine ⟨_, rfl, ?_⟩; have n0_ := Aside0.mk (KeepBut.trans (by repeat ((with_reducible exact HK.out))) hk (.inl rfl)); have n1_ := Aside0.mk (hb); have n2_ := Aside0.mk (hi); clear HK; clear HB; clear HI0; have HK := n0_; have HB := n1_; have HI0 := n2_; clear n0_ n1_ n2_; (try clear hb); (try clear hb2); (try clear hk); (try clear hi); obtain ⟨HGz5, hgz5⟩ := HI0.out; have hcz5_0 := cellS80_0 HGz5; have hcz5_1 := cellS80_1 HGz5; have hfz5_0 := blk_frozen HGz5 0; have hfz5_1 := blk_frozen HGz5 1; clear HGz5 hgz5))
  go_ret
  exact ⟨by rfl, by repeat ((with_reducible first | exact HI0.out | apply IsS80.set_1)), by repeat ((with_reducible first | exact HB.out | refine below_set ?_ (IsS80.ge HI0.out))), by repeat ((with_reducible first | exact HK.out | apply KeepBut.set_ ))⟩
 ·rw [if_neg c3] at H
  have c3b0 : (t400.toList == ([] : List UInt8)) = false := beq_eq_false_iff_ne.mpr c3
  have c3b1 : (t400.toList != ([] : List UInt8)) = true := bne_iff_ne.mpr c3
  by_cases c6 : 1 ≤ (t400.size : Int)
  ·rw [if_pos c6] at H
   have c6b0 := eq_true c6
   have c6b1 : decide (1 ≤ (t400.size : Int)) = true := decide_eq_true c6
   clear c6
   have HC7 := Aside0.mk H
   clear H
   go_enter Tryz.func150, Tryz.ntmps150
   go_upto_if 25 with (first | ((with_reducible refine gate_callee (f := 85) rfl ?_); refine goesL_ (some 7) rfl rfl Tryz.func85 (by kernel_rfl) rfl #[.pointer (some ⟨g, 0, none⟩)] rfl (by (try simp only [List.map_toArray, List.map_cons, List.map_nil]); rfl) ?_; (with_reducible refine (spec_reader_peek.calls g s0_0 s0_1 t399 t400 t401 w0 _ ?side1 ?side2 A2.out).mono ?_); (case side1 => repeat ((with_reducible exact HI0.out))); (case side2 => repeat ((with_reducible exact HB.out))); rintro e w8 ⟨rfl, hi, hb, hk⟩; refine ⟨_, rfl, ?_⟩; have n0_ := Aside0.mk (KeepBut.trans (by repeat ((with_reducible exact HK.out))) hk (.inl rfl)); have n1_ := Aside0.mk (hb); have n2_ := Aside0.mk (hi); clear HK; clear HB; clear HI0; have HK := n0_; have HB := n1_; have HI0 := n2_; clear n0_ n1_ n2_; (try clear hb); (try clear hb2); (try clear hk); (try clear hi); obtain ⟨HGz9, hgz9⟩ := HI0.out; have hcz9_0 := cellS80_0 HGz9; have hcz9_1 := cellS80_1 HGz9; have hfz9_0 := blk_frozen HGz9 0; have hfz9_1 := blk_frozen HGz9 1; clear HGz9 hgz9))
   (skip)
   go_cut [25] (fun v25 wc => ∃ (kq : Nat) (x25_6 : Bool), v25 = .bool x25_6 ∧ Aside0 (spec_reader_escape.j0 kq t399 t399 x25_6 (t400.extract 1 t400.size) t401 = some (r1, r2, r3)) ∧ Aside0 (kq ≤ k) ∧ Aside0 (IsS80 w0 wc g (t400.extract 1 t400.size) t401) ∧ Aside0 (KeepBut w wc g none) ∧ Aside0 (Below w0.heap.size w0 wc))
   case first =>
    have H := HC7.out
    clear HC7
    by_cases c10 : t399 = 34
    ·rw [if_pos c10] at H
     have c10b0 : (t399 == 34) = true := beq_iff_eq.mpr c10
     have c10b1 : (t399 != 34) = false := bne_eq_false_iff_eq.mpr c10
     clear c10
     (first | rw [c10b0] | (simp only [i64_w, i32_w]; rw [c10b0]) | skip)
     have H' := Aside0.mk H
     clear H
     go_wp2
     go_meet
     case rel => exact ⟨_, ((t399 == 34)), (by first | rfl | (simp; done) | (simp [*]; done)), H', ⟨by first | omega | exact Nat.le_refl _⟩, ⟨by repeat ((with_reducible first | exact HI0.out | apply IsS80.set_0 ))⟩, ⟨by repeat ((with_reducible first | exact HK.out | apply KeepBut.set_ ))⟩, ⟨by repeat ((with_reducible first | exact HB.out | refine below_set ?_ (IsS80.ge HI0.out)))⟩⟩
    ·rw [if_neg c10] at H
     have c10b0 : (t399 == 34) = false := beq_eq_false_iff_ne.mpr c10
     have c10b1 : (t399 != 34) = true := bne_iff_ne.mpr c10
     (first | rw [c10b0] | (simp only [i64_w, i32_w]; rw [c10b0]) | skip)
     by_cases c11 : t399 = 92
     ·rw [if_pos c11] at H
      have c11b0 : (t399 == 92) = true := beq_iff_eq.mpr c11
      have c11b1 : (t399 != 92) = false := bne_eq_false_iff_eq.mpr c11
      clear c11
      have H' := Aside0.mk H
      clear H
      go_wp2
      go_meet
      case rel => exact ⟨_, ((t399 == 92)), (by first | rfl | (simp; done) | (simp [*]; done)), H', ⟨by first | omega | exact Nat.le_refl _⟩, ⟨by repeat ((with_reducible first | exact HI0.out | apply IsS80.set_0 ))⟩, ⟨by repeat ((with_reducible first | exact HK.out | apply KeepBut.set_ ))⟩, ⟨by repeat ((with_reducible first | exact HB.out | refine below_set ?_ (IsS80.ge HI0.out)))⟩⟩
     ·rw [if_neg c11] at H
      have c11b0 : (t399 == 92) = false := beq_eq_false_iff_ne.mpr c11
      have c11b1 : (t399 != 92) = true := bne_iff_ne.mpr c11
      have H' := Aside0.mk H
      clear H
      go_wp2
      go_meet
      case rel => exact ⟨_, ((t399 == 47)), (by first | rfl | (simp; done) | (simp [*]; done)), H', ⟨by first | omega | exact Nat.le_refl _⟩, ⟨by repeat ((with_reducible first | exact HI0.out | apply IsS80.set_0 ))⟩, ⟨by repeat ((with_reducible first | exact HK.out | apply KeepBut.set_ ))⟩, ⟨by repeat ((with_reducible first | exact HB.out | refine below_set ?_ (IsS80.ge HI0.out)))⟩⟩
   case rest =>
    clear HC7
    try clear c1
    try clear p2
    try clear c3
    try clear c3b0
    try clear c3b1
    try clear c6
    try clear c6b0
    try clear c6b1
    try clear c8
    try clear c10
    try clear c10b0
    try clear c10b1
    try clear c11
    try clear c11b0
    try clear c11b1
    try clear hcz5_0
    try clear hcz5_1
    try clear hcz9_0
    try clear hcz9_1
    try clear hfz5_0
    try clear hfz5_1
    try clear hfz9_0
    try clear hfz9_1
    obtain ⟨kq, x25_6, rfl, HA, HJ6, HI0, HK, HB⟩ := hcut
    cases kq with
    | zero => exact absurd HA.out (by simp [spec_reader_escape.j0])
    | succ kj6 =>
      have H := HA.out
      clear HA
      simp only [spec_reader_escape.j0] at H
      by_cases c12 : x25_6 = true
      ·subst c12
       have H1 : (some (strOfNums (([t399] : List Int)), (t400.extract 1 t400.size), t401)) = some (r1, r2, r3) := by rw [if_pos rfl] at H; exact H
       clear H
       have H := H1
       clear H1
       obtain ⟨y402, hy402⟩ : ∃ y_ : List Int, y_ = (([t399] : List Int)) := ⟨_, rfl⟩
       replace H : (some (strOfNums y402, (t400.extract 1 t400.size), t401)) = some (r1, r2, r3) := by (rw [hy402]; with_reducible exact H)
       have Ny402 := Aside0.mk hy402
       clear hy402
       simp only [Option.some.injEq, Prod.mk.injEq] at H
       obtain ⟨rfl, rfl, rfl⟩ := H
       go_wp2_with (first | ((with_reducible refine gate_dst (N := 30) rfl ?_); refine Kd.R_lit (Kd.int .u8) _ 5 ?hg (N := 30) ?hd (xs := ([t399] : List Int)) (inner := [.int .u8 t399]) (ok := fun _ => True) (okp := fun _ => True) ?hr ?hp (fun _ hk => hk) trivial (Below.refl _ _) (Nat.le_refl _) (by simp) ?_; (case hd => rfl); (case hg => rfl); (case hr => first | (go_simp; done) | (go_simp; rfl)); (case hp => exact (Reps.one (show Kd.M (Kd.int .u8) _ _ _ t399 [.int .u8 t399] from rfl) (Reps.none _ _))); intro v403 w13 ho14 hb hg_ hnew_; clear hg_ hnew_; (rw [← Ny402.out] at ho14); have n0_ := Aside0.mk (Kd.R_lower ho14 (keep_size (w := w) (g := g) (row := none) (by repeat ((with_reducible exact HK.out))))); have n1_ := Aside0.mk (IsS80.below (by repeat ((with_reducible exact HI0.out))) hb); have n2_ := Aside0.mk (KeepBut.trans (by repeat ((with_reducible exact HK.out))) (KeepBut.of_below hb g none) (.inl rfl)); have n3_ := Aside0.mk (below_step (by repeat ((with_reducible exact HB.out))) hb); clear HI0; clear HK; clear HB; have HO404 := n0_; have HI0 := n1_; have HK := n2_; have HB := n3_; clear n0_ n1_ n2_ n3_; clear hb ho14; have hcv15 := own_string (P := Tryz.prog) Tryz.underlying22 Tryz.underlying5 Tryz.underlying9 (Kd.own_of_R HO404.out)))
       go_ret
       exact ⟨by rfl, by repeat ((with_reducible exact HI0.out)), by repeat ((with_reducible exact HB.out)), by repeat ((with_reducible exact HK.out))⟩
      ·replace c12 := Bool.eq_false_iff.mpr c12
       subst c12
       have H1 : (if t399 = 98 then (some ((⟨#[8]⟩ : ByteArray), (t400.extract 1 t400.size), t401)) else (if t399 = 102 then (some ((⟨#[12]⟩ : ByteArray), (t400.extract 1 t400.size), t401)) else (if t399 = 110 then (some ((⟨#[10]⟩ : ByteArray), (t400.extract 1 t400.size), t401)) else (if t399 = 114 then (some ((⟨#[13]⟩ : ByteArray), (t400.extract 1 t400.size), t401)) else (if t399 = 116 then (some ((⟨#[9]⟩ : ByteArray), (t400.extract 1 t400.size), t401)) else (if t399 = 117 then ((spec_reader_hex.f kj6 (t400.extract 1 t400.size) t401).bind fun bt405 => (if bt405.1 ≥ 55296 then (if bt405.1 < 56320 then ((spec_reader_take.f bt405.2.1 bt405.2.2 (⟨#[92, 117]⟩ : ByteArray)).bind fun bt408 => (spec_reader_escape.j1 kj6 bt405.1 bt408.1 bt408.2.1 bt408.2.2)) else (spec_reader_escape.j1 kj6 bt405.1 false bt405.2.1 bt405.2.2)) else (spec_reader_escape.j1 kj6 bt405.1 false bt405.2.1 bt405.2.2))) else (some ((⟨#[]⟩ : ByteArray), (t400.extract 1 t400.size), true)))))))) = some (r1, r2, r3) := by rw [if_neg (show ¬ (false = true) by decide)] at H; exact H
       clear H
       have H := H1
       clear H1
       by_cases c16 : t399 = 98
       ·rw [if_pos c16] at H
        have c16b0 : (t399 == 98) = true := beq_iff_eq.mpr c16
        have c16b1 : (t399 != 98) = false := bne_eq_false_iff_eq.mpr c16
        clear c16
        simp only [Option.some.injEq, Prod.mk.injEq] at H
        obtain ⟨rfl, rfl, rfl⟩ := H
        go_wp2
        go_ret
        exact ⟨by rfl, by repeat ((with_reducible exact HI0.out)), by repeat ((with_reducible exact HB.out)), by repeat ((with_reducible exact HK.out))⟩
       ·rw [if_neg c16] at H
        have c16b0 : (t399 == 98) = false := beq_eq_false_iff_ne.mpr c16
        have c16b1 : (t399 != 98) = true := bne_iff_ne.mpr c16
        by_cases c17 : t399 = 102
        ·rw [if_pos c17] at H
         have c17b0 : (t399 == 102) = true := beq_iff_eq.mpr c17
         have c17b1 : (t399 != 102) = false := bne_eq_false_iff_eq.mpr c17
         clear c17
         simp only [Option.some.injEq, Prod.mk.injEq] at H
         obtain ⟨rfl, rfl, rfl⟩ := H
         go_wp2
         go_ret
         exact ⟨by rfl, by repeat ((with_reducible exact HI0.out)), by repeat ((with_reducible exact HB.out)), by repeat ((with_reducible exact HK.out))⟩
        ·rw [if_neg c17] at H
         have c17b0 : (t399 == 102) = false := beq_eq_false_iff_ne.mpr c17
         have c17b1 : (t399 != 102) = true := bne_iff_ne.mpr c17
         by_cases c18 : t399 = 110
         ·rw [if_pos c18] at H
          have c18b0 : (t399 == 110) = true := beq_iff_eq.mpr c18
          have c18b1 : (t399 != 110) = false := bne_eq_false_iff_eq.mpr c18
          clear c18
          simp only [Option.some.injEq, Prod.mk.injEq] at H
          obtain ⟨rfl, rfl, rfl⟩ := H
          go_wp2
          go_ret
          exact ⟨by rfl, by repeat ((with_reducible exact HI0.out)), by repeat ((with_reducible exact HB.out)), by repeat ((with_reducible exact HK.out))⟩
         ·rw [if_neg c18] at H
          have c18b0 : (t399 == 110) = false := beq_eq_false_iff_ne.mpr c18
          have c18b1 : (t399 != 110) = true := bne_iff_ne.mpr c18
          by_cases c19 : t399 = 114
          ·rw [if_pos c19] at H
           have c19b0 : (t399 == 114) = true := beq_iff_eq.mpr c19
           have c19b1 : (t399 != 114) = false := bne_eq_false_iff_eq.mpr c19
           clear c19
           simp only [Option.some.injEq, Prod.mk.injEq] at H
           obtain ⟨rfl, rfl, rfl⟩ := H
           go_wp2
           go_ret
           exact ⟨by rfl, by repeat ((with_reducible exact HI0.out)), by repeat ((with_reducible exact HB.out)), by repeat ((with_reducible exact HK.out))⟩
          ·rw [if_neg c19] at H
           have c19b0 : (t399 == 114) = false := beq_eq_false_iff_ne.mpr c19
           have c19b1 : (t399 != 114) = true := bne_iff_ne.mpr c19
           by_cases c20 : t399 = 116
           ·rw [if_pos c20] at H
            have c20b0 : (t399 == 116) = true := beq_iff_eq.mpr c20
            have c20b1 : (t399 != 116) = false := bne_eq_false_iff_eq.mpr c20
            clear c20
            simp only [Option.some.injEq, Prod.mk.injEq] at H
            obtain ⟨rfl, rfl, rfl⟩ := H
            go_wp2
            go_ret
            exact ⟨by rfl, by repeat ((with_reducible exact HI0.out)), by repeat ((with_reducible exact HB.out)), by repeat ((with_reducible exact HK.out))⟩
           ·rw [if_neg c20] at H
            have c20b0 : (t399 == 116) = false := beq_eq_false_iff_ne.mpr c20
            have c20b1 : (t399 != 116) = true := bne_iff_ne.mpr c20
            by_cases c21 : t399 = 117
            ·rw [if_pos c21] at H
             have c21b0 : (t399 == 117) = true := beq_iff_eq.mpr c21
             have c21b1 : (t399 != 117) = false := bne_eq_false_iff_eq.mpr c21
             clear c21
             replace H := Option.bind_eq_some_iff.mp H
             obtain ⟨⟨t405, t406, t407⟩, A220, H⟩ := H
             replace H : (if t405 ≥ 55296 then (if t405 < 56320 then ((spec_reader_take.f t406 t407 (⟨#[92, 117]⟩ : ByteArray)).bind fun bt408 => (spec_reader_escape.j1 kj6 t405 bt408.1 bt408.2.1 bt408.2.2)) else (spec_reader_escape.j1 kj6 t405 false t406 t407)) else (spec_reader_escape.j1 kj6 t405 false t406 t407)) = some (r1, r2, r3) := H
             have A22 := Aside0.mk A220
             clear A220
             have HC23 := Aside0.mk H
             clear H
             go_upto_region 23 with (first | ((with_reducible refine gate_callee (f := 191) rfl ?_); refine goesL_ (some 45) rfl rfl Tryz.func191 (by kernel_rfl) rfl #[.pointer (some ⟨g, 0, none⟩)] rfl (by (try simp only [List.map_toArray, List.map_cons, List.map_nil]); rfl) ?_; (with_reducible refine (spec_reader_hex.calls kj6 g (t400.extract 1 t400.size) t401 t405 t406 t407 w0 _ ?side1 ?side2 A22.out).mono ?_); (case side1 => repeat ((with_reducible exact HI0.out))); (case side2 => repeat ((with_reducible exact HB.out))); rintro e w24 ⟨rfl, hi, hb, hk⟩; refine ⟨_, rfl, ?_⟩; have n0_ := Aside0.mk (KeepBut.trans (by repeat ((with_reducible exact HK.out))) hk (.inl rfl)); have n1_ := Aside0.mk (hb); have n2_ := Aside0.mk (hi); clear HK; clear HB; clear HI0; have HK := n0_; have HB := n1_; have HI0 := n2_; clear n0_ n1_ n2_; (try clear hb); (try clear hb2); (try clear hk); (try clear hi)))
             (skip)
             go_cut [55] (fun v55 wc => ∃ (kq : Nat) (x55_22 : Bool) (x1000_22 : ByteArray) (x1001_22 : Bool), v55 = .bool x55_22 ∧ Aside0 (spec_reader_escape.j1 kq t405 x55_22 x1000_22 x1001_22 = some (r1, r2, r3)) ∧ Aside0 (kq ≤ kj6) ∧ Aside0 (IsS80 w0 wc g x1000_22 x1001_22) ∧ Aside0 (KeepBut w wc g none) ∧ Aside0 (Below w0.heap.size w0 wc))
             case first =>
              have H := HC23.out
              clear HC23
              by_cases c25 : t405 ≥ 55296
              ·rw [if_pos c25] at H
               have c25b0 : decide (55296 ≤ t405) = true := decide_eq_true c25
               clear c25
               (first | rw [c25b0] | (simp only [i64_w, i32_w]; rw [c25b0]) | skip)
               by_cases c26 : t405 < 56320
               ·rw [if_pos c26] at H
                have c26b0 : decide (t405 < 56320) = true := decide_eq_true c26
                clear c26
                replace H := Option.bind_eq_some_iff.mp H
                obtain ⟨⟨t408, t409, t410⟩, A270, H⟩ := H
                replace H : (spec_reader_escape.j1 kj6 t405 t408 t409 t410) = some (r1, r2, r3) := H
                have A27 := Aside0.mk A270
                clear A270
                have H' := Aside0.mk H
                clear H
                go_wp2_with (first | (go_at_call 149; (with_reducible refine (spec_reader_take.calls g t406 t407 (⟨#[92, 117]⟩ : ByteArray) t408 t409 t410 w0 _ ?side1 ?side2 A27.out).mono ?_); (case side1 => repeat ((with_reducible exact HI0.out))); (case side2 => repeat ((with_reducible exact HB.out))); rintro e w28 ⟨rfl, hi, hb, hk⟩; have n0_ := Aside0.mk (KeepBut.trans (by repeat ((with_reducible exact HK.out))) hk (.inl rfl)); have n1_ := Aside0.mk (hb); have n2_ := Aside0.mk (hi); clear HK; clear HB; clear HI0; have HK := n0_; have HB := n1_; have HI0 := n2_; clear n0_ n1_ n2_; (try clear hb); (try clear hb2); (try clear hk); (try clear hi)))
                go_meet
                case rel => exact ⟨_, (t408), (t409), (t410), (by first | rfl | (simp; done) | (simp [*]; done)), H', ⟨by have := HJ6.out; first | omega | exact Nat.le_refl _⟩, ⟨by repeat ((with_reducible exact HI0.out))⟩, ⟨by repeat ((with_reducible exact HK.out))⟩, ⟨by repeat ((with_reducible exact HB.out))⟩⟩
               ·rw [if_neg c26] at H
                have c26b0 : decide (t405 < 56320) = false := decide_eq_false c26
                clear c26
                have H' := Aside0.mk H
                clear H
                go_wp2
                go_meet
                case rel => exact ⟨_, (false), (t406), (t407), (by first | rfl | (simp; done) | (simp [*]; done)), H', ⟨by have := HJ6.out; first | omega | exact Nat.le_refl _⟩, ⟨by repeat ((with_reducible exact HI0.out))⟩, ⟨by repeat ((with_reducible exact HK.out))⟩, ⟨by repeat ((with_reducible exact HB.out))⟩⟩
              ·rw [if_neg c25] at H
               have c25b0 : decide (55296 ≤ t405) = false := decide_eq_false c25
               clear c25
               (first | rw [c25b0] | (simp only [i64_w, i32_w]; rw [c25b0]) | skip)
               have H' := Aside0.mk H
               clear H
               go_wp2
               go_meet
               case rel => exact ⟨_, (false), (t406), (t407), (by first | rfl | (simp; done) | (simp [*]; done)), H', ⟨by have := HJ6.out; first | omega | exact Nat.le_refl _⟩, ⟨by repeat ((with_reducible exact HI0.out))⟩, ⟨by repeat ((with_reducible exact HK.out))⟩, ⟨by repeat ((with_reducible exact HB.out))⟩⟩
             case rest =>
              clear HC23
              try clear c1
              try clear hcv1
              try clear c2
              try clear p2
              try clear c3
              try clear c3b0
              try clear c3b1
              try clear c6
              try clear c6b0
              try clear c6b1
              try clear c8
              try clear c10
              try clear c10b0
              try clear c10b1
              try clear c11
              try clear c11b0
              try clear c11b1
              try clear c12
              try clear c15
              try clear hcv15
              try clear c16
              try clear c16b0
              try clear c16b1
              try clear c17
              try clear c17b0
              try clear c17b1
              try clear c18
              try clear c18b0
              try clear c18b1
              try clear c19
              try clear c19b0
              try clear c19b1
              try clear c20
              try clear c20b0
              try clear c20b1
              try clear c21
              try clear c21b0
              try clear c21b1
              try clear c25
              try clear c25b0
              try clear c26
              try clear c26b0
              try clear hcz5_0
              try clear hcz5_1
              try clear hcz9_0
              try clear hcz9_1
              try clear hfz5_0
              try clear hfz5_1
              try clear hfz9_0
              try clear hfz9_1
              try clear p2
              obtain ⟨kq, x55_22, x1000_22, x1001_22, rfl, HA, HJ22, HI0, HK, HB⟩ := hcut
              cases kq with
              | zero => exact absurd HA.out (by simp [spec_reader_escape.j1])
              | succ kj22 =>
                have H := HA.out
                clear HA
                simp only [spec_reader_escape.j1] at H
                by_cases c29 : x55_22 = true
                ·subst c29
                 have H1 : ((spec_reader_hex.f kj22 x1000_22 x1001_22).bind fun bt411 => (if bt411.1 < 56320 then (spec_reader_escape.j2 kj22 t405 bt411.1 true bt411.2.1 bt411.2.2) else (spec_reader_escape.j2 kj22 t405 bt411.1 (decide (bt411.1 ≥ 57344)) bt411.2.1 bt411.2.2))) = some (r1, r2, r3) := by rw [if_pos rfl] at H; exact H
                 clear H
                 have H := H1
                 clear H1
                 replace H := Option.bind_eq_some_iff.mp H
                 obtain ⟨⟨t411, t412, t413⟩, A300, H⟩ := H
                 replace H : (if t411 < 56320 then (spec_reader_escape.j2 kj22 t405 t411 true t412 t413) else (spec_reader_escape.j2 kj22 t405 t411 (decide (t411 ≥ 57344)) t412 t413)) = some (r1, r2, r3) := H
                 have A30 := Aside0.mk A300
                 clear A300
                 have HC31 := Aside0.mk H
                 clear H
                 go_upto_region 25 with (first | ((with_reducible refine gate_callee (f := 191) rfl ?_); refine goesL_ (some 57) rfl rfl Tryz.func191 (by kernel_rfl) rfl #[.pointer (some ⟨g, 0, none⟩)] rfl (by (try simp only [List.map_toArray, List.map_cons, List.map_nil]); rfl) ?_; (with_reducible refine (spec_reader_hex.calls kj22 g x1000_22 x1001_22 t411 t412 t413 w0 _ ?side1 ?side2 A30.out).mono ?_); (case side1 => repeat ((with_reducible exact HI0.out))); (case side2 => repeat ((with_reducible exact HB.out))); rintro e w32 ⟨rfl, hi, hb, hk⟩; refine ⟨_, rfl, ?_⟩; have n0_ := Aside0.mk (KeepBut.trans (by repeat ((with_reducible exact HK.out))) hk (.inl rfl)); have n1_ := Aside0.mk (hb); have n2_ := Aside0.mk (hi); clear HK; clear HB; clear HI0; have HK := n0_; have HB := n1_; have HI0 := n2_; clear n0_ n1_ n2_; (try clear hb); (try clear hb2); (try clear hk); (try clear hi)))
                 (skip)
                 go_cut [63] (fun v63 wc => ∃ (kq : Nat) (x63_30 : Bool), v63 = .bool x63_30 ∧ Aside0 (spec_reader_escape.j2 kq t405 t411 x63_30 t412 t413 = some (r1, r2, r3)) ∧ Aside0 (kq ≤ kj22) ∧ Aside0 (IsS80 w0 wc g t412 t413) ∧ Aside0 (KeepBut w wc g none) ∧ Aside0 (Below w0.heap.size w0 wc))
                 case first =>
                  have H := HC31.out
                  clear HC31
                  by_cases c33 : t411 < 56320
                  ·rw [if_pos c33] at H
                   have c33b0 : decide (t411 < 56320) = true := decide_eq_true c33
                   clear c33
                   (first | rw [c33b0] | (simp only [i64_w, i32_w]; rw [c33b0]) | skip)
                   have H' := Aside0.mk H
                   clear H
                   go_wp2
                   go_meet
                   case rel => exact ⟨_, (true), (by first | rfl | (simp; done) | (simp [*]; done)), H', ⟨by have := HJ6.out; have := HJ22.out; first | omega | exact Nat.le_refl _⟩, ⟨by repeat ((with_reducible exact HI0.out))⟩, ⟨by repeat ((with_reducible exact HK.out))⟩, ⟨by repeat ((with_reducible exact HB.out))⟩⟩
                  ·rw [if_neg c33] at H
                   have c33b0 : decide (t411 < 56320) = false := decide_eq_false c33
                   clear c33
                   (first | rw [c33b0] | (simp only [i64_w, i32_w]; rw [c33b0]) | skip)
                   have H' := Aside0.mk H
                   clear H
                   go_wp2
                   go_meet
                   case rel => exact ⟨_, (decide (t411 ≥ 57344)), (by first | rfl | (simp; done) | (simp [*]; done)), H', ⟨by have := HJ6.out; have := HJ22.out; first | omega | exact Nat.le_refl _⟩, ⟨by repeat ((with_reducible exact HI0.out))⟩, ⟨by repeat ((with_reducible exact HK.out))⟩, ⟨by repeat ((with_reducible exact HB.out))⟩⟩
                 case rest =>
                  clear HC31
                  try clear c1
                  try clear hcv1
                  try clear c2
                  try clear p2
                  try clear c3
                  try clear c3b0
                  try clear c3b1
                  try clear c6
                  try clear c6b0
                  try clear c6b1
                  try clear c8
                  try clear c10
                  try clear c10b0
                  try clear c10b1
                  try clear c11
                  try clear c11b0
                  try clear c11b1
                  try clear c12
                  try clear c15
                  try clear hcv15
                  try clear c16
                  try clear c16b0
                  try clear c16b1
                  try clear c17
                  try clear c17b0
                  try clear c17b1
                  try clear c18
                  try clear c18b0
                  try clear c18b1
                  try clear c19
                  try clear c19b0
                  try clear c19b1
                  try clear c20
                  try clear c20b0
                  try clear c20b1
                  try clear c21
                  try clear c21b0
                  try clear c21b1
                  try clear c25
                  try clear c25b0
                  try clear c26
                  try clear c26b0
                  try clear c29
                  try clear c33
                  try clear c33b0
                  try clear hcz5_0
                  try clear hcz5_1
                  try clear hcz9_0
                  try clear hcz9_1
                  try clear hfz5_0
                  try clear hfz5_1
                  try clear hfz9_0
                  try clear hfz9_1
                  try clear p2
                  obtain ⟨kq, x63_30, rfl, HA, HJ30, HI0, HK, HB⟩ := hcut
                  cases kq with
                  | zero => exact absurd HA.out (by simp [spec_reader_escape.j2])
                  | succ kj30 =>
                    have H := HA.out
                    clear HA
                    simp only [spec_reader_escape.j2] at H
                    by_cases c34 : x63_30 = true
                    ·subst c34
                     have H1 : (some ((⟨#[]⟩ : ByteArray), t412, true)) = some (r1, r2, r3) := by rw [if_pos rfl] at H; exact H
                     clear H
                     have H := H1
                     clear H1
                     simp only [Option.some.injEq, Prod.mk.injEq] at H
                     obtain ⟨rfl, rfl, rfl⟩ := H
                     obtain ⟨HGz35, hgz35⟩ := HI0.out
                     have hcz35_0 := cellS80_0 HGz35
                     have hcz35_1 := cellS80_1 HGz35
                     have hfz35_0 := blk_frozen HGz35 0
                     have hfz35_1 := blk_frozen HGz35 1
                     clear HGz35 hgz35
                     go_wp2
                     go_ret
                     exact ⟨by rfl, by repeat ((with_reducible first | exact HI0.out | apply IsS80.set_1)), by repeat ((with_reducible first | exact HB.out | refine below_set ?_ (IsS80.ge HI0.out))), by repeat ((with_reducible first | exact HK.out | apply KeepBut.set_ ))⟩
                    ·replace c34 := Bool.eq_false_iff.mpr c34
                     subst c34
                     have H1 : ((spec_utf8.f (wrap32 ((wrap32 (65536 + (wrap32 ((wrap32 (t405 - 55296)) * 1024)))) + (wrap32 (t411 - 56320))))).bind fun t414 => (some (t414, t412, t413))) = some (r1, r2, r3) := by rw [if_neg (show ¬ (false = true) by decide)] at H; exact H
                     clear H
                     have H := H1
                     clear H1
                     replace H := Option.bind_eq_some_iff.mp H
                     obtain ⟨t414, A360, H⟩ := H
                     replace H : (some (t414, t412, t413)) = some (r1, r2, r3) := H
                     have A36 := Aside0.mk A360
                     clear A360
                     simp only [Option.some.injEq, Prod.mk.injEq] at H
                     obtain ⟨rfl, rfl, rfl⟩ := H
                     go_wp2_with (first | ((with_reducible refine gate_callee (f := 192) rfl ?_); refine goesL_ (some 74) rfl rfl Tryz.func192 (by kernel_rfl) rfl #[.int .i32 (wrap32 ((wrap32 (65536 + (wrap32 ((wrap32 (t405 - 55296)) * 1024)))) + (wrap32 (t411 - 56320))))] rfl (by (try simp only [List.map_toArray, List.map_cons, List.map_nil]); rfl) ?_; (with_reducible refine (spec_utf8.calls (wrap32 ((wrap32 (65536 + (wrap32 ((wrap32 (t405 - 55296)) * 1024)))) + (wrap32 (t411 - 56320)))) t414 _ A36.out).mono ?_); rintro e w37 ⟨rfl, hb⟩; refine ⟨_, rfl, ?_⟩; have n0_ := Aside0.mk (IsS80.below (by repeat ((with_reducible exact HI0.out))) hb); have n1_ := Aside0.mk (KeepBut.trans (by repeat ((with_reducible exact HK.out))) (KeepBut.of_below hb g none) (.inl rfl)); have n2_ := Aside0.mk (below_step (by repeat ((with_reducible exact HB.out))) hb); clear HI0; clear HK; clear HB; have HI0 := n0_; have HK := n1_; have HB := n2_; clear n0_ n1_ n2_; (try clear hb); (try clear hb2); (try clear hk); (try clear hi)))
                     go_ret
                     exact ⟨by rfl, by repeat ((with_reducible exact HI0.out)), by repeat ((with_reducible exact HB.out)), by repeat ((with_reducible exact HK.out))⟩
                ·replace c29 := Bool.eq_false_iff.mpr c29
                 subst c29
                 have H1 : (if t405 ≥ 55296 then (if t405 < 57344 then (some ((⟨#[]⟩ : ByteArray), x1000_22, true)) else ((spec_utf8.f t405).bind fun t415 => (some (t415, x1000_22, x1001_22)))) else ((spec_utf8.f t405).bind fun t416 => (some (t416, x1000_22, x1001_22)))) = some (r1, r2, r3) := by rw [if_neg (show ¬ (false = true) by decide)] at H; exact H
                 clear H
                 have H := H1
                 clear H1
                 by_cases c38 : t405 ≥ 55296
                 ·rw [if_pos c38] at H
                  have c38b0 : decide (55296 ≤ t405) = true := decide_eq_true c38
                  clear c38
                  by_cases c39 : t405 < 57344
                  ·rw [if_pos c39] at H
                   have c39b0 : decide (t405 < 57344) = true := decide_eq_true c39
                   clear c39
                   simp only [Option.some.injEq, Prod.mk.injEq] at H
                   obtain ⟨rfl, rfl, rfl⟩ := H
                   obtain ⟨HGz40, hgz40⟩ := HI0.out
                   have hcz40_0 := cellS80_0 HGz40
                   have hcz40_1 := cellS80_1 HGz40
                   have hfz40_0 := blk_frozen HGz40 0
                   have hfz40_1 := blk_frozen HGz40 1
                   clear HGz40 hgz40
                   go_wp2
                   go_ret
                   exact ⟨by rfl, by repeat ((with_reducible first | exact HI0.out | apply IsS80.set_1)), by repeat ((with_reducible first | exact HB.out | refine below_set ?_ (IsS80.ge HI0.out))), by repeat ((with_reducible first | exact HK.out | apply KeepBut.set_ ))⟩
                  ·rw [if_neg c39] at H
                   have c39b0 : decide (t405 < 57344) = false := decide_eq_false c39
                   clear c39
                   replace H := Option.bind_eq_some_iff.mp H
                   obtain ⟨t415, A410, H⟩ := H
                   replace H : (some (t415, x1000_22, x1001_22)) = some (r1, r2, r3) := H
                   have A41 := Aside0.mk A410
                   clear A410
                   simp only [Option.some.injEq, Prod.mk.injEq] at H
                   obtain ⟨rfl, rfl, rfl⟩ := H
                   go_wp2_with (first | ((with_reducible refine gate_callee (f := 192) rfl ?_); refine goesL_ (some 85) rfl rfl Tryz.func192 (by kernel_rfl) rfl #[.int .i32 t405] rfl (by (try simp only [List.map_toArray, List.map_cons, List.map_nil]); rfl) ?_; (with_reducible refine (spec_utf8.calls t405 t415 _ A41.out).mono ?_); rintro e w42 ⟨rfl, hb⟩; refine ⟨_, rfl, ?_⟩; have n0_ := Aside0.mk (IsS80.below (by repeat ((with_reducible exact HI0.out))) hb); have n1_ := Aside0.mk (KeepBut.trans (by repeat ((with_reducible exact HK.out))) (KeepBut.of_below hb g none) (.inl rfl)); have n2_ := Aside0.mk (below_step (by repeat ((with_reducible exact HB.out))) hb); clear HI0; clear HK; clear HB; have HI0 := n0_; have HK := n1_; have HB := n2_; clear n0_ n1_ n2_; (try clear hb); (try clear hb2); (try clear hk); (try clear hi)))
                   go_ret
                   exact ⟨by rfl, by repeat ((with_reducible exact HI0.out)), by repeat ((with_reducible exact HB.out)), by repeat ((with_reducible exact HK.out))⟩
                 ·rw [if_neg c38] at H
                  have c38b0 : decide (55296 ≤ t405) = false := decide_eq_false c38
                  clear c38
                  replace H := Option.bind_eq_some_iff.mp H
                  obtain ⟨t416, A430, H⟩ := H
                  replace H : (some (t416, x1000_22, x1001_22)) = some (r1, r2, r3) := H
                  have A43 := Aside0.mk A430
                  clear A430
                  simp only [Option.some.injEq, Prod.mk.injEq] at H
                  obtain ⟨rfl, rfl, rfl⟩ := H
                  go_wp2_with (first | ((with_reducible refine gate_callee (f := 192) rfl ?_); refine goesL_ (some 85) rfl rfl Tryz.func192 (by kernel_rfl) rfl #[.int .i32 t405] rfl (by (try simp only [List.map_toArray, List.map_cons, List.map_nil]); rfl) ?_; (with_reducible refine (spec_utf8.calls t405 t416 _ A43.out).mono ?_); rintro e w44 ⟨rfl, hb⟩; refine ⟨_, rfl, ?_⟩; have n0_ := Aside0.mk (IsS80.below (by repeat ((with_reducible exact HI0.out))) hb); have n1_ := Aside0.mk (KeepBut.trans (by repeat ((with_reducible exact HK.out))) (KeepBut.of_below hb g none) (.inl rfl)); have n2_ := Aside0.mk (below_step (by repeat ((with_reducible exact HB.out))) hb); clear HI0; clear HK; clear HB; have HI0 := n0_; have HK := n1_; have HB := n2_; clear n0_ n1_ n2_; (try clear hb); (try clear hb2); (try clear hk); (try clear hi)))
                  go_ret
                  exact ⟨by rfl, by repeat ((with_reducible exact HI0.out)), by repeat ((with_reducible exact HB.out)), by repeat ((with_reducible exact HK.out))⟩
            ·rw [if_neg c21] at H
             have c21b0 : (t399 == 117) = false := beq_eq_false_iff_ne.mpr c21
             have c21b1 : (t399 != 117) = true := bne_iff_ne.mpr c21
             simp only [Option.some.injEq, Prod.mk.injEq] at H
             obtain ⟨rfl, rfl, rfl⟩ := H
             obtain ⟨HGz45, hgz45⟩ := HI0.out
             have hcz45_0 := cellS80_0 HGz45
             have hcz45_1 := cellS80_1 HGz45
             have hfz45_0 := blk_frozen HGz45 0
             have hfz45_1 := blk_frozen HGz45 1
             clear HGz45 hgz45
             go_wp2
             go_ret
             exact ⟨by rfl, by repeat ((with_reducible first | exact HI0.out | apply IsS80.set_1)), by repeat ((with_reducible first | exact HB.out | refine below_set ?_ (IsS80.ge HI0.out))), by repeat ((with_reducible first | exact HK.out | apply KeepBut.set_ ))⟩
  ·rw [if_neg c6] at H
   exact absurd H (by simp)

end Go.Proofs.YtkihaebaccdjdaaGreatDoor.PX
