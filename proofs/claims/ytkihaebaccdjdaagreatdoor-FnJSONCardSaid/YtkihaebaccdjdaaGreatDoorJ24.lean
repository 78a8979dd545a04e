import Derived.Test.YtkihaebaccdjdaaGreatDoorJ4
import Derived.Test.YtkihaebaccdjdaaGreatDoorJ20
import Derived.Test.YtkihaebaccdjdaaGreatDoorJ21
import Derived.Test.YtkihaebaccdjdaaGreatDoorJ23
namespace Go.Proofs.YtkihaebaccdjdaaGreatDoor.PX
open Go.RowKit Go.Proofs.YtkihaebaccdjdaaGreatDoorW.PrintWords Go.Proofs.YtkihaebaccdjdaaGreatDoorW.PrintLast Go.Proofs.YtkihaebaccdjdaaGreatDoorW.PrintMore
attribute [local go_sem] max2_int min2_int max_two min_two max_three min_three max_four min_four   -- for this text's walks alone
set_option linter.unusedVariables false
set_option linter.unusedSimpArgs false

/-! ### spec_reader_text: function 84 -/
def spec_reader_text.l0 : Nat → List Int → ByteArray → Bool → Option (ByteArray × ByteArray × Bool)
 | 0, _, _, _ => none
 | k + 1, x3, x1000, x1001 => if x1001 = true then (some ((⟨#[]⟩ : ByteArray), x1000, x1001)) else ((spec_reader_peek.f x1000 x1001).bind fun bt422 => ((spec_reader_take.f bt422.2.1 bt422.2.2 (⟨#[34]⟩ : ByteArray)).bind fun bt425 => (if bt425.1 = true then (some (strOfNums x3, bt425.2.1, bt425.2.2)) else ((spec_reader_take.f bt425.2.1 bt425.2.2 (⟨#[92]⟩ : ByteArray)).bind fun bt428 => (if bt428.1 = true then ((spec_reader_escape.f k bt428.2.1 bt428.2.2).bind fun bt431 => (if x3.length + bt431.1.size < 140737488355328 then (spec_reader_text.l0 k (x3 ++ bytesOf bt431.1) bt431.2.1 bt431.2.2) else (none))) else (if bt428.2.1.toList = ([] : List UInt8) then (spec_reader_text.l0 k x3 bt428.2.1 true) else (if bt422.1 < 32 then (spec_reader_text.l0 k x3 bt428.2.1 true) else (if x3.length < 140737488355328 then (if 1 ≤ (bt428.2.1.size : Int) then (spec_reader_text.l0 k (x3 ++ [bt422.1]) (bt428.2.1.extract 1 bt428.2.1.size) bt428.2.2) else (none)) else (none)))))))))
def spec_reader_text.f (k : Nat) (s0_0 : ByteArray) (s0_1 : Bool) : Option (ByteArray × ByteArray × Bool) := (spec_reader_token.f k s0_0 s0_1 (⟨#[34]⟩ : ByteArray)).bind fun bt417 => (spec_reader_text.l0 k (([] : List Int)) bt417.1 bt417.2)
set_option maxHeartbeats 8000000 in
set_option maxRecDepth 100000 in
theorem spec_reader_text.calls (k : Nat) (g : Nat) (s0_0 : ByteArray) (s0_1 : Bool) (r1 : ByteArray) (r2 : ByteArray) (r3 : Bool) (w0 w : World) (hI : IsS80 w0 w g s0_0 s0_1) (hB : Below w0.heap.size w0 w) (h : spec_reader_text.f k s0_0 s0_1 = some (r1, r2, r3)) :
 Calls Tryz.prog 84 #[.pointer (some ⟨g, 0, none⟩)] w fun e w' => e = .returned (.string r1) ∧ IsS80 w0 w' g r2 r3 ∧ Below w0.heap.size w0 w' ∧ KeepBut w w' g none := by
 have HI0 := Aside0.mk hI
 have HK := Aside0.mk (KeepBut.refl w g none)
 have HL := Aside0.mk hB.size
 clear hI
 have HW0 := Aside0.mk hB.size
 have HB := Aside0.mk hB
 clear hB
 have H : ((spec_reader_token.f k s0_0 s0_1 (⟨#[34]⟩ : ByteArray)).bind fun bt417 => (spec_reader_text.l0 k (([] : List Int)) bt417.1 bt417.2)) = some (r1, r2, r3) := h
 clear h
 replace H := Option.bind_eq_some_iff.mp H
 obtain ⟨⟨t417, t418⟩, A20, H⟩ := H
 replace H : (spec_reader_text.l0 k (([] : List Int)) t417 t418) = some (r1, r2, r3) := H
 have A2 := Aside0.mk A20
 clear A20
 obtain ⟨y419, hy419⟩ : ∃ y_ : List Int, y_ = (([] : List Int)) := ⟨_, rfl⟩
 replace H : (spec_reader_text.l0 k y419 t417 t418) = some (r1, r2, r3) := by (rw [hy419]; with_reducible exact H)
 have Ny419 := Aside0.mk hy419
 clear hy419
 have H' := Aside0.mk H
 clear H
 go_enter Tryz.func84, Tryz.ntmps84
 go_wp2_with (first | ((with_reducible refine gate_callee (f := 83) rfl ?_); refine goesL_ (some 6) rfl rfl Tryz.func83 (by kernel_rfl) rfl #[.pointer (some ⟨g, 0, none⟩), .string (⟨#[34]⟩ : ByteArray)] rfl (by (try simp only [List.map_toArray, List.map_cons, List.map_nil]); rfl) ?_; (with_reducible refine (spec_reader_token.calls k g s0_0 s0_1 (⟨#[34]⟩ : ByteArray) t417 t418 w0 _ ?side1 ?side2 A2.out).mono ?_); (case side1 => repeat ((with_reducible exact HI0.out))); (case side2 => repeat ((with_reducible exact HB.out))); rintro e w3 ⟨rfl, hi, hb, hk⟩; refine ⟨_, rfl, ?_⟩; have n0_ := Aside0.mk (KeepBut.trans (by repeat ((with_reducible exact HK.out))) hk (.inl rfl)); have n1_ := Aside0.mk (hb); have n2_ := Aside0.mk (hi); clear HK; clear HB; clear HI0; have HK := n0_; have HB := n1_; have HI0 := n2_; clear n0_ n1_ n2_; (try clear hb); (try clear hb2); (try clear hk); (try clear hi)) | ((with_reducible refine gate_dst (N := 7) rfl ?_); refine Kd.R_lit (Kd.int .u8) _ 5 ?hg (N := 7) ?hd (xs := ([] : List Int)) (inner := []) (ok := fun _ => True) (okp := fun _ => True) ?hr ?hp (fun _ hk => hk) trivial (Below.refl _ _) (Nat.le_refl _) (by simp) ?_; (case hd => rfl); (case hg => rfl); (case hr => first | (go_simp; done) | (go_simp; rfl)); (case hp => exact (Reps.none _ _)); intro v420 w4 ho5 hb hg_ hnew_; clear hg_ hnew_; (rw [← Ny419.out] at ho5); have n0_ := Aside0.mk (Kd.R_lower ho5 (keep_size (w := w) (g := g) (row := none) (by repeat ((with_reducible exact HK.out))))); have n1_ := Aside0.mk (IsS80.below (by repeat ((with_reducible exact HI0.out))) hb); have n2_ := Aside0.mk (KeepBut.trans (by repeat ((with_reducible exact HK.out))) (KeepBut.of_below hb g none) (.inl rfl)); have n3_ := Aside0.mk (below_step (by repeat ((with_reducible exact HB.out))) hb); clear HI0; clear HK; clear HB; have HO421 := n0_; have HI0 := n1_; have HK := n2_; have HB := n3_; clear n0_ n1_ n2_ n3_; clear hb ho5))
 go_loopg [3] k (fun kq v3 w' => ∃ (x3_1 : List Int) (x1000_1 : ByteArray) (x1001_1 : Bool), Aside0 (spec_reader_text.l0 kq x3_1 x1000_1 x1001_1 = some (r1, r2, r3)) ∧ Aside0 (kq ≤ k) ∧ Aside0 (Kd.R (Kd.int .u8) 5 w' w.heap.size (fun _ => True) v3 x3_1) ∧ Aside0 (IsS80 w0 w' g x1000_1 x1001_1) ∧ Aside0 (KeepBut w w' g none) ∧ Aside0 (Below w0.heap.size w0 w'))
 case atStart => exact ⟨(y419), (t417), (t418), H', ⟨Nat.le_refl _⟩, ⟨by (with_reducible repeat (first | apply Kd.R_alloc | apply Kd.R_drewN | apply Kd.R_drew)); exact HO421.out⟩, ⟨by repeat ((with_reducible exact HI0.out))⟩, ⟨by repeat ((with_reducible exact HK.out))⟩, ⟨by repeat ((with_reducible exact HB.out))⟩⟩
 case round =>
  clear H'
  try clear p2
  obtain ⟨x3_1, x1000_1, x1001_1, HA, HK1, HO_3, HI0, HK, HB⟩ := hrel
  cases gk with
  | zero => exact absurd HA.out (by simp [spec_reader_text.l0])
  | succ k1 =>
    have H := HA.out
    clear HA
    simp only [spec_reader_text.l0] at H
    by_cases c6 : x1001_1 = true
    ·subst c6
     have H1 : (some ((⟨#[]⟩ : ByteArray), x1000_1, true)) = some (r1, r2, r3) := by rw [if_pos rfl] at H; exact H
     clear H
     have H := H1
     clear H1
     simp only [Option.some.injEq, Prod.mk.injEq] at H
     obtain ⟨rfl, rfl, rfl⟩ := H
     obtain ⟨HGz7, hgz7⟩ := HI0.out
     have hcz7_0 := cellS80_0 HGz7
     have hcz7_1 := cellS80_1 HGz7
     have hfz7_0 := blk_frozen HGz7 0
     have hfz7_1 := blk_frozen HGz7 1
     clear HGz7 hgz7
     go_wp2
     go_ret
     exact ⟨by rfl, by repeat ((with_reducible exact HI0.out)), by repeat ((with_reducible exact HB.out)), by repeat ((with_reducible exact HK.out))⟩
    ·replace c6 := Bool.eq_false_iff.mpr c6
     subst c6
     have H1 : ((spec_reader_peek.f x1000_1 false).bind fun bt422 => ((spec_reader_take.f bt422.2.1 bt422.2.2 (⟨#[34]⟩ : ByteArray)).bind fun bt425 => (if bt425.1 = true then (some (strOfNums x3_1, bt425.2.1, bt425.2.2)) else ((spec_reader_take.f bt425.2.1 bt425.2.2 (⟨#[92]⟩ : ByteArray)).bind fun bt428 => (if bt428.1 = true then ((spec_reader_escape.f k1 bt428.2.1 bt428.2.2).bind fun bt431 => (if x3_1.length + bt431.1.size < 140737488355328 then (spec_reader_text.l0 k1 (x3_1 ++ bytesOf bt431.1) bt431.2.1 bt431.2.2) else (none))) else (if bt428.2.1.toList = ([] : List UInt8) then (spec_reader_text.l0 k1 x3_1 bt428.2.1 true) else (if bt422.1 < 32 then (spec_reader_text.l0 k1 x3_1 bt428.2.1 true) else (if x3_1.length < 140737488355328 then (if 1 ≤ (bt428.2.1.size : Int) then (spec_reader_text.l0 k1 (x3_1 ++ [bt422.1]) (bt428.2.1.extract 1 bt428.2.1.size) bt428.2.2) else (none)) else (none))))))))) = some (r1, r2, r3) := by rw [if_neg (show ¬ (false = true) by decide)] at H; exact H
     clear H
     have H := H1
     clear H1
     replace H := Option.bind_eq_some_iff.mp H
     obtain ⟨⟨t422, t423, t424⟩, A80, H⟩ := H
     replace H : ((spec_reader_take.f t423 t424 (⟨#[34]⟩ : ByteArray)).bind fun bt425 => (if bt425.1 = true then (some (strOfNums x3_1, bt425.2.1, bt425.2.2)) else ((spec_reader_take.f bt425.2.1 bt425.2.2 (⟨#[92]⟩ : ByteArray)).bind fun bt428 => (if bt428.1 = true then ((spec_reader_escape.f k1 bt428.2.1 bt428.2.2).bind fun bt431 => (if x3_1.length + bt431.1.size < 140737488355328 then (spec_reader_text.l0 k1 (x3_1 ++ bytesOf bt431.1) bt431.2.1 bt431.2.2) else (none))) else (if bt428.2.1.toList = ([] : List UInt8) then (spec_reader_text.l0 k1 x3_1 bt428.2.1 true) else (if t422 < 32 then (spec_reader_text.l0 k1 x3_1 bt428.2.1 true) else (if x3_1.length < 140737488355328 then (if 1 ≤ (bt428.2.1.size : Int) then (spec_reader_text.l0 k1 (x3_1 ++ [t422]) (bt428.2.1.extract 1 bt428.2.1.size) bt428.2.2) else (none)) else (none)))))))) = some (r1, r2, r3) := H
     have A8 := Aside0.mk A80
     clear A80
     replace H := Option.bind_eq_some_iff.mp H
     obtain ⟨⟨t425, t426, t427⟩, A90, H⟩ := H
     replace H : (if t425 = true then (some (strOfNums x3_1, t426, t427)) else ((spec_reader_take.f t426 t427 (⟨#[92]⟩ : ByteArray)).bind fun bt428 => (if bt428.1 = true then ((spec_reader_escape.f k1 bt428.2.1 bt428.2.2).bind fun bt431 => (if x3_1.length + bt431.1.size < 140737488355328 then (spec_reader_text.l0 k1 (x3_1 ++ bytesOf bt431.1) bt431.2.1 bt431.2.2) else (none))) else (if bt428.2.1.toList = ([] : List UInt8) then (spec_reader_text.l0 k1 x3_1 bt428.2.1 true) else (if t422 < 32 then (spec_reader_text.l0 k1 x3_1 bt428.2.1 true) else (if x3_1.length < 140737488355328 then (if 1 ≤ (bt428.2.1.size : Int) then (spec_reader_text.l0 k1 (x3_1 ++ [t422]) (bt428.2.1.extract 1 bt428.2.1.size) bt428.2.2) else (none)) else (none))))))) = some (r1, r2, r3) := H
     have A9 := Aside0.mk A90
     clear A90
     by_cases c10 : t425 = true
     ·subst c10
      have H1 : (some (strOfNums x3_1, t426, t427)) = some (r1, r2, r3) := by rw [if_pos rfl] at H; exact H
      clear H
      have H := H1
      clear H1
      simp only [Option.some.injEq, Prod.mk.injEq] at H
      obtain ⟨rfl, rfl, rfl⟩ := H
      obtain ⟨HGz11, hgz11⟩ := HI0.out
      have hcz11_0 := cellS80_0 HGz11
      have hcz11_1 := cellS80_1 HGz11
      have hfz11_0 := blk_frozen HGz11 0
      have hfz11_1 := blk_frozen HGz11 1
      clear HGz11 hgz11
      go_wp2_with (first | ((with_reducible refine gate_callee (f := 85) rfl ?_); refine goesL_ (some 14) rfl rfl Tryz.func85 (by kernel_rfl) rfl #[.pointer (some ⟨g, 0, none⟩)] rfl (by (try simp only [List.map_toArray, List.map_cons, List.map_nil]); rfl) ?_; (with_reducible refine (spec_reader_peek.calls g x1000_1 false t422 t423 t424 w0 _ ?side1 ?side2 A8.out).mono ?_); (case side1 => repeat ((with_reducible exact HI0.out))); (case side2 => repeat ((with_reducible exact HB.out))); rintro e w12 ⟨rfl, hi, hb, hk⟩; refine ⟨_, rfl, ?_⟩; have n0_ := Aside0.mk (Kd.R_mono (Kd.R_keep (IsS80.apart (show IsS80 w0 _ g x1000_1 false from by repeat ((with_reducible exact HI0.out))) (by (with_reducible repeat (first | apply Kd.R_alloc | apply Kd.R_drewN | apply Kd.R_drew)); exact HO_3.out) (by decide)) hk (fun _ h => h.2)) (fun _ h => h.1)); have n1_ := Aside0.mk (KeepBut.trans (by repeat ((with_reducible exact HK.out))) hk (.inl rfl)); have n2_ := Aside0.mk (hb); have n3_ := Aside0.mk (hi); clear HO_3; clear HK; clear HB; clear HI0; have HO_3 := n0_; have HK := n1_; have HB := n2_; have HI0 := n3_; clear n0_ n1_ n2_ n3_; (try clear hb); (try clear hb2); (try clear hk); (try clear hi)) | ((with_reducible refine gate_callee (f := 149) rfl ?_); refine goesL_ (some 29) rfl rfl Tryz.func149 (by kernel_rfl) rfl #[.pointer (some ⟨g, 0, none⟩), .string (⟨#[34]⟩ : ByteArray)] rfl (by (try simp only [List.map_toArray, List.map_cons, List.map_nil]); rfl) ?_; (with_reducible refine (spec_reader_take.calls g t423 t424 (⟨#[34]⟩ : ByteArray) true t426 t427 w0 _ ?side1 ?side2 A9.out).mono ?_); (case side1 => repeat ((with_reducible exact HI0.out))); (case side2 => repeat ((with_reducible exact HB.out))); rintro e w13 ⟨rfl, hi, hb, hk⟩; refine ⟨_, rfl, ?_⟩; have n0_ := Aside0.mk (Kd.R_mono (Kd.R_keep (IsS80.apart (show IsS80 w0 _ g t423 t424 from by repeat ((with_reducible exact HI0.out))) (by (with_reducible repeat (first | apply Kd.R_alloc | apply Kd.R_drewN | apply Kd.R_drew)); exact HO_3.out) (by decide)) hk (fun _ h => h.2)) (fun _ h => h.1)); have n1_ := Aside0.mk (KeepBut.trans (by repeat ((with_reducible exact HK.out))) hk (.inl rfl)); have n2_ := Aside0.mk (hb); have n3_ := Aside0.mk (hi); clear HO_3; clear HK; clear HB; clear HI0; have HO_3 := n0_; have HK := n1_; have HB := n2_; have HI0 := n3_; clear n0_ n1_ n2_ n3_; (try clear hb); (try clear hb2); (try clear hk); (try clear hi); have hcv14 := own_string (P := Tryz.prog) Tryz.underlying22 Tryz.underlying5 Tryz.underlying9 (Kd.own_of_R HO_3.out)))
      go_ret
      exact ⟨by rfl, by repeat ((with_reducible exact HI0.out)), by repeat ((with_reducible exact HB.out)), by repeat ((with_reducible exact HK.out))⟩
     ·replace c10 := Bool.eq_false_iff.mpr c10
      subst c10
      have H1 : ((spec_reader_take.f t426 t427 (⟨#[92]⟩ : ByteArray)).bind fun bt428 => (if bt428.1 = true then ((spec_reader_escape.f k1 bt428.2.1 bt428.2.2).bind fun bt431 => (if x3_1.length + bt431.1.size < 140737488355328 then (spec_reader_text.l0 k1 (x3_1 ++ bytesOf bt431.1) bt431.2.1 bt431.2.2) else (none))) else (if bt428.2.1.toList = ([] : List UInt8) then (spec_reader_text.l0 k1 x3_1 bt428.2.1 true) else (if t422 < 32 then (spec_reader_text.l0 k1 x3_1 bt428.2.1 true) else (if x3_1.length < 140737488355328 then (if 1 ≤ (bt428.2.1.size : Int) then (spec_reader_text.l0 k1 (x3_1 ++ [t422]) (bt428.2.1.extract 1 bt428.2.1.size) bt428.2.2) else (none)) else (none)))))) = some (r1, r2, r3) := by rw [if_neg (show ¬ (false = true) by decide)] at H; exact H
      clear H
      have H := H1
      clear H1
      replace H := Option.bind_eq_some_iff.mp H
      obtain ⟨⟨t428, t429, t430⟩, A150, H⟩ := H
      replace H : (if t428 = true then ((spec_reader_escape.f k1 t429 t430).bind fun bt431 => (if x3_1.length + bt431.1.size < 140737488355328 then (spec_reader_text.l0 k1 (x3_1 ++ bytesOf bt431.1) bt431.2.1 bt431.2.2) else (none))) else (if t429.toList = ([] : List UInt8) then (spec_reader_text.l0 k1 x3_1 t429 true) else (if t422 < 32 then (spec_reader_text.l0 k1 x3_1 t429 true) else (if x3_1.length < 140737488355328 then (if 1 ≤ (t429.size : Int) then (spec_reader_text.l0 k1 (x3_1 ++ [t422]) (t429.extract 1 t429.size) t430) else (none)) else (none))))) = some (r1, r2, r3) := H
      have A15 := Aside0.mk A150
      clear A150
      by_cases c16 : t428 = true
      ·subst c16
       have H1 : ((spec_reader_escape.f k1 t429 t430).bind fun bt431 => (if x3_1.length + bt431.1.size < 140737488355328 then (spec_reader_text.l0 k1 (x3_1 ++ bytesOf bt431.1) bt431.2.1 bt431.2.2) else (none))) = some (r1, r2, r3) := by rw [if_pos rfl] at H; exact H
       clear H
       have H := H1
       clear H1
       replace H := Option.bind_eq_some_iff.mp H
       obtain ⟨⟨t431, t432, t433⟩, A170, H⟩ := H
       replace H : (if x3_1.length + t431.size < 140737488355328 then (spec_reader_text.l0 k1 (x3_1 ++ bytesOf t431) t432 t433) else (none)) = some (r1, r2, r3) := H
       have A17 := Aside0.mk A170
       clear A170
       by_cases c18 : x3_1.length + t431.size < 140737488355328
       ·rw [if_pos c18] at H
        have LMc18 := Aside0.mk c18
        clear c18
        obtain ⟨y434, hy434⟩ : ∃ y_ : List Int, y_ = (x3_1 ++ bytesOf t431) := ⟨_, rfl⟩
        replace H : (spec_reader_text.l0 k1 y434 t432 t433) = some (r1, r2, r3) := by (rw [hy434]; with_reducible exact H)
        have Ny434 := Aside0.mk hy434
        clear hy434
        have H' := Aside0.mk H
        clear H
        obtain ⟨HGz19, hgz19⟩ := HI0.out
        have hcz19_0 := cellS80_0 HGz19
        have hcz19_1 := cellS80_1 HGz19
        have hfz19_0 := blk_frozen HGz19 0
        have hfz19_1 := blk_frozen HGz19 1
        clear HGz19 hgz19
        go_wp2_with (first | ((with_reducible refine gate_callee (f := 85) rfl ?_); refine goesL_ (some 14) rfl rfl Tryz.func85 (by kernel_rfl) rfl #[.pointer (some ⟨g, 0, none⟩)] rfl (by (try simp only [List.map_toArray, List.map_cons, List.map_nil]); rfl) ?_; (with_reducible refine (spec_reader_peek.calls g x1000_1 false t422 t423 t424 w0 _ ?side1 ?side2 A8.out).mono ?_); (case side1 => repeat ((with_reducible exact HI0.out))); (case side2 => repeat ((with_reducible exact HB.out))); rintro e w20 ⟨rfl, hi, hb, hk⟩; refine ⟨_, rfl, ?_⟩; have n0_ := Aside0.mk (Kd.R_mono (Kd.R_keep (IsS80.apart (show IsS80 w0 _ g x1000_1 false from by repeat ((with_reducible exact HI0.out))) (by (with_reducible repeat (first | apply Kd.R_alloc | apply Kd.R_drewN | apply Kd.R_drew)); exact HO_3.out) (by decide)) hk (fun _ h => h.2)) (fun _ h => h.1)); have n1_ := Aside0.mk (KeepBut.trans (by repeat ((with_reducible exact HK.out))) hk (.inl rfl)); have n2_ := Aside0.mk (hb); have n3_ := Aside0.mk (hi); clear HO_3; clear HK; clear HB; clear HI0; have HO_3 := n0_; have HK := n1_; have HB := n2_; have HI0 := n3_; clear n0_ n1_ n2_ n3_; (try clear hb); (try clear hb2); (try clear hk); (try clear hi)) | ((with_reducible refine gate_callee (f := 149) rfl ?_); refine goesL_ (some 29) rfl rfl Tryz.func149 (by kernel_rfl) rfl #[.pointer (some ⟨g, 0, none⟩), .string (⟨#[34]⟩ : ByteArray)] rfl (by (try simp only [List.map_toArray, List.map_cons, List.map_nil]); rfl) ?_; (with_reducible refine (spec_reader_take.calls g t423 t424 (⟨#[34]⟩ : ByteArray) false t426 t427 w0 _ ?side1 ?side2 A9.out).mono ?_); (case side1 => repeat ((with_reducible exact HI0.out))); (case side2 => repeat ((with_reducible exact HB.out))); rintro e w21 ⟨rfl, hi, hb, hk⟩; refine ⟨_, rfl, ?_⟩; have n0_ := Aside0.mk (Kd.R_mono (Kd.R_keep (IsS80.apart (show IsS80 w0 _ g t423 t424 from by repeat ((with_reducible exact HI0.out))) (by (with_reducible repeat (first | apply Kd.R_alloc | apply Kd.R_drewN | apply Kd.R_drew)); exact HO_3.out) (by decide)) hk (fun _ h => h.2)) (fun _ h => h.1)); have n1_ := Aside0.mk (KeepBut.trans (by repeat ((with_reducible exact HK.out))) hk (.inl rfl)); have n2_ := Aside0.mk (hb); have n3_ := Aside0.mk (hi); clear HO_3; clear HK; clear HB; clear HI0; have HO_3 := n0_; have HK := n1_; have HB := n2_; have HI0 := n3_; clear n0_ n1_ n2_ n3_; (try clear hb); (try clear hb2); (try clear hk); (try clear hi)) | ((with_reducible refine gate_callee (f := 149) rfl ?_); refine goesL_ (some 34) rfl rfl Tryz.func149 (by kernel_rfl) rfl #[.pointer (some ⟨g, 0, none⟩), .string (⟨#[92]⟩ : ByteArray)] rfl (by (try simp only [List.map_toArray, List.map_cons, List.map_nil]); rfl) ?_; (with_reducible refine (spec_reader_take.calls g t426 t427 (⟨#[92]⟩ : ByteArray) true t429 t430 w0 _ ?side1 ?side2 A15.out).mono ?_); (case side1 => repeat ((with_reducible exact HI0.out))); (case side2 => repeat ((with_reducible exact HB.out))); rintro e w22 ⟨rfl, hi, hb, hk⟩; refine ⟨_, rfl, ?_⟩; have n0_ := Aside0.mk (Kd.R_mono (Kd.R_keep (IsS80.apart (show IsS80 w0 _ g t426 t427 from by repeat ((with_reducible exact HI0.out))) (by (with_reducible repeat (first | apply Kd.R_alloc | apply Kd.R_drewN | apply Kd.R_drew)); exact HO_3.out) (by decide)) hk (fun _ h => h.2)) (fun _ h => h.1)); have n1_ := Aside0.mk (KeepBut.trans (by repeat ((with_reducible exact HK.out))) hk (.inl rfl)); have n2_ := Aside0.mk (hb); have n3_ := Aside0.mk (hi); clear HO_3; clear HK; clear HB; clear HI0; have HO_3 := n0_; have HK := n1_; have HB := n2_; have HI0 := n3_; clear n0_ n1_ n2_ n3_; (try clear hb); (try clear hb2); (try clear hk); (try clear hi)) | ((with_reducible refine gate_callee (f := 150) rfl ?_); refine goesL_ (some 37) rfl rfl Tryz.func150 (by kernel_rfl) rfl #[.pointer (some ⟨g, 0, none⟩)] rfl (by (try simp only [List.map_toArray, List.map_cons, List.map_nil]); rfl) ?_; (with_reducible refine (spec_reader_escape.calls k1 g t429 t430 t431 t432 t433 w0 _ ?side1 ?side2 A17.out).mono ?_); (case side1 => repeat ((with_reducible exact HI0.out))); (case side2 => repeat ((with_reducible exact HB.out))); rintro e w23 ⟨rfl, hi, hb, hk⟩; refine ⟨_, rfl, ?_⟩; have n0_ := Aside0.mk (Kd.R_mono (Kd.R_keep (IsS80.apart (show IsS80 w0 _ g t429 t430 from by repeat ((with_reducible exact HI0.out))) (by (with_reducible repeat (first | apply Kd.R_alloc | apply Kd.R_drewN | apply Kd.R_drew)); exact HO_3.out) (by decide)) hk (fun _ h => h.2)) (fun _ h => h.1)); have n1_ := Aside0.mk (KeepBut.trans (by repeat ((with_reducible exact HK.out))) hk (.inl rfl)); have n2_ := Aside0.mk (hb); have n3_ := Aside0.mk (hi); clear HO_3; clear HK; clear HB; clear HI0; have HO_3 := n0_; have HK := n1_; have HB := n2_; have HI0 := n3_; clear n0_ n1_ n2_ n3_; (try clear hb); (try clear hb2); (try clear hk); (try clear hi)) | (at_builtin; refine print_append_str w.heap.size rfl (.tmp 35) _ 22 9 5 rfl Tryz.underlying22 Tryz.underlying9 info5 u3 x3_1 t431 rfl rfl ?aO (Below.refl _ _) ?aS ?aL ?_; (case aO => exact (Kd.own_of_R (by (with_reducible repeat (first | apply Kd.R_alloc | apply Kd.R_drewN | apply Kd.R_drew)); exact HO_3.out))); (case aS => exact (keep_size (w := w) (g := g) (row := none) (by repeat ((with_reducible exact HK.out))))); (case aL => have := LMc18.out; omega); intro v435 w24 ho0 hb hg; have ho := Kd.R_of_own (h1 := fun _ => rfl) (ok := fun _ => True) ho0 (fun _ _ => trivial); clear ho0; have hat := True.intro; rw [← Ny434.out] at ho; change Kd.R (Kd.int .u8) 5 w24 w.heap.size (fun _ => True) v435 y434 at ho; have n0_ := Aside0.mk (IsS80.grown (by repeat ((with_reducible exact HI0.out))) hg (IsS80.own_ne HI0.out HO_3.out (by decide))); have n1_ := Aside0.mk (below_weaken (by repeat ((with_reducible exact HB.out))) HL.out hb); have n2_ := Aside0.mk (KeepBut.trans (by repeat ((with_reducible exact HK.out))) (KeepBut.of_grown hg g) (Kd.R_base2 HO_3.out)); have n3_ := Aside0.mk (ho); clear HI0; clear HB; clear HK; clear HO_3; have HI0 := n0_; have HB := n1_; have HK := n2_; have HO436 := n3_; clear n0_ n1_ n2_ n3_; clear ho hb hg hat))
        go_roundg k1
        case measure => have := HK1.out; omega
        case rel => exact ⟨(y434), (t432), (t433), H', ⟨by have := HK1.out; omega⟩, ⟨by (with_reducible repeat (first | apply Kd.R_alloc | apply Kd.R_drewN | apply Kd.R_drew)); exact HO436.out⟩, ⟨by repeat ((with_reducible exact HI0.out))⟩, ⟨by repeat ((with_reducible exact HK.out))⟩, ⟨by repeat ((with_reducible exact HB.out))⟩⟩
       ·rw [if_neg c18] at H
        exact absurd H (by simp)
      ·replace c16 := Bool.eq_false_iff.mpr c16
       subst c16
       have H1 : (if t429.toList = ([] : List UInt8) then (spec_reader_text.l0 k1 x3_1 t429 true) else (if t422 < 32 then (spec_reader_text.l0 k1 x3_1 t429 true) else (if x3_1.length < 140737488355328 then (if 1 ≤ (t429.size : Int) then (spec_reader_text.l0 k1 (x3_1 ++ [t422]) (t429.extract 1 t429.size) t430) else (none)) else (none)))) = some (r1, r2, r3) := by rw [if_neg (show ¬ (false = true) by decide)] at H; exact H
       clear H
       have H := H1
       clear H1
       by_cases c25 : t429.toList = ([] : List UInt8)
       ·rw [if_pos c25] at H
        have c25b0 : (t429.toList == ([] : List UInt8)) = true := beq_iff_eq.mpr c25
        have c25b1 : (t429.toList != ([] : List UInt8)) = false := bne_eq_false_iff_eq.mpr c25
        clear c25
        have H' := Aside0.mk H
        clear H
        obtain ⟨HGz26, hgz26⟩ := HI0.out
        have hcz26_0 := cellS80_0 HGz26
        have hcz26_1 := cellS80_1 HGz26
        have hfz26_0 := blk_frozen HGz26 0
        have hfz26_1 := blk_frozen HGz26 1
        clear HGz26 hgz26
        go_wp2_with (first | ((with_reducible refine gate_callee (f := 85) rfl ?_); refine goesL_ (some 14) rfl rfl Tryz.func85 (by kernel_rfl) rfl #[.pointer (some ⟨g, 0, none⟩)] rfl (by (try simp only [List.map_toArray, List.map_cons, List.map_nil]); rfl) ?_; (with_reducible refine (spec_reader_peek.calls g x1000_1 false t422 t423 t424 w0 _ ?side1 ?side2 A8.out).mono ?_); (case side1 => repeat ((with_reducible exact HI0.out))); (case side2 => repeat ((with_reducible exact HB.out))); rintro e w27 ⟨rfl, hi, hb, hk⟩; refine ⟨_, rfl, ?_⟩; have n0_ := Aside0.mk (Kd.R_mono (Kd.R_keep (IsS80.apart (show IsS80 w0 _ g x1000_1 false from by repeat ((with_reducible exact HI0.out))) (by (with_reducible repeat (first | apply Kd.R_alloc | apply Kd.R_drewN | apply Kd.R_drew)); exact HO_3.out) (by decide)) hk (fun _ h => h.2)) (fun _ h => h.1)); have n1_ := Aside0.mk (KeepBut.trans (by repeat ((with_reducible exact HK.out))) hk (.inl rfl)); have n2_ := Aside0.mk (hb); have n3_ := Aside0.mk (hi); clear HO_3; clear HK; clear HB; clear HI0; have HO_3 := n0_; have HK := n1_; have HB := n2_; have HI0 := n3_; clear n0_ n1_ n2_ n3_; (try clear hb); (try clear hb2); (try clear hk); (try clear hi)) | ((with_reducible refine gate_callee (f := 149) rfl ?_); refine goesL_ (some 29) rfl rfl Tryz.func149 (by kernel_rfl) rfl #[.pointer (some ⟨g, 0, none⟩), .string (⟨#[34]⟩ : ByteArray)] rfl (by (try simp only [List.map_toArray, List.map_cons, List.map_nil]); rfl) ?_; (with_reducible refine (spec_reader_take.calls g t423 t424 (⟨#[34]⟩ : ByteArray) false t426 t427 w0 _ ?side1 ?side2 A9.out).mono ?_); (case side1 => repeat ((with_reducible exact HI0.out))); (case side2 => repeat ((with_reducible exact HB.out))); rintro e w28 ⟨rfl, hi, hb, hk⟩; refine ⟨_, rfl, ?_⟩; have n0_ := Aside0.mk (Kd.R_mono (Kd.R_keep (IsS80.apart (show IsS80 w0 _ g t423 t424 from by repeat ((with_reducible exact HI0.out))) (by (with_reducible repeat (first | apply Kd.R_alloc | apply Kd.R_drewN | apply Kd.R_drew)); exact HO_3.out) (by decide)) hk (fun _ h => h.2)) (fun _ h => h.1)); have n1_ := Aside0.mk (KeepBut.trans (by repeat ((with_reducible exact HK.out))) hk (.inl rfl)); have n2_ := Aside0.mk (hb); have n3_ := Aside0.mk (hi); clear HO_3; clear HK; clear HB; clear HI0; have HO_3 := n0_; have HK := n1_; have HB := n2_; have HI0 := n3_; clear n0_ n1_ n2_ n3_; (try clear hb); (try clear hb2); (try clear hk); (try clear hi)) | ((with_reducible refine gate_callee (f := 149) rfl ?_); refine goesL_ (some 34) rfl rfl Tryz.func149 (by kernel_rfl) rfl #[.pointer (some ⟨g, 0, none⟩), .string (⟨#[92]⟩ : ByteArray)] rfl (by (try simp only [List.map_toArray, List.map_cons, List.map_nil]); rfl) ?_; (with_reducible refine (spec_reader_take.calls g t426 t427 (⟨#[92]⟩ : ByteArray) false t429 t430 w0 _ ?side1 ?side2 A15.out).mono ?_); (case side1 => repeat ((with_reducible exact HI0.out))); (case side2 => repeat ((with_reducible exact HB.out))); rintro e w29 ⟨rfl, hi, hb, hk⟩; refine ⟨_, rfl, ?_⟩; have n0_ := Aside0.mk (Kd.R_mono (Kd.R_keep (IsS80.apart (show IsS80 w0 _ g t426 t427 from by repeat ((with_reducible exact HI0.out))) (by (with_reducible repeat (first | apply Kd.R_alloc | apply Kd.R_drewN | apply Kd.R_drew)); exact HO_3.out) (by decide)) hk (fun _ h => h.2)) (fun _ h => h.1)); have n1_ := Aside0.mk (KeepBut.trans (by repeat ((with_reducible exact HK.out))) hk (.inl rfl)); have n2_ := Aside0.mk (hb); have n3_ := Aside0.mk (hi); clear HO_3; clear HK; clear HB; clear HI0; have HO_3 := n0_; have HK := n1_; have HB := n2_; have HI0 := n3_; clear n0_ n1_ n2_ n3_; (try clear hb); (try clear hb2); (try clear hk); (try clear hi); obtain ⟨HGz30, hgz30⟩ := HI0.out; have hcz30_0 := cellS80_0 HGz30; have hcz30_1 := cellS80_1 HGz30; have hfz30_0 := blk_frozen HGz30 0; have hfz30_1 := blk_frozen HGz30 1; clear HGz30 hgz30))
        go_roundg k1
        case measure => have := HK1.out; omega
        case rel => exact ⟨(x3_1), (t429), (true), H', ⟨by have := HK1.out; omega⟩, ⟨by (with_reducible repeat (first | apply Kd.R_alloc | apply Kd.R_drewN | apply Kd.R_drew)); exact Kd.R_mono (Kd.R_far (p := ⟨g, 1, none⟩) (IsS80.apart HI0.out HO_3.out (by decide)) (fun _ hk => hk.2) (.bool true)) (fun _ hk => trivial)⟩, ⟨by repeat ((with_reducible first | exact HI0.out | apply IsS80.set_1))⟩, ⟨by repeat ((with_reducible first | exact HK.out | apply KeepBut.set_ ))⟩, ⟨by repeat ((with_reducible first | exact HB.out | refine below_set ?_ (IsS80.ge HI0.out)))⟩⟩
       ·rw [if_neg c25] at H
        have c25b0 : (t429.toList == ([] : List UInt8)) = false := beq_eq_false_iff_ne.mpr c25
        have c25b1 : (t429.toList != ([] : List UInt8)) = true := bne_iff_ne.mpr c25
        by_cases c31 : t422 < 32
        ·rw [if_pos c31] at H
         have c31b0 : decide (t422 < 32) = true := decide_eq_true c31
         clear c31
         have H' := Aside0.mk H
         clear H
         obtain ⟨HGz32, hgz32⟩ := HI0.out
         have hcz32_0 := cellS80_0 HGz32
         have hcz32_1 := cellS80_1 HGz32
         have hfz32_0 := blk_frozen HGz32 0
         have hfz32_1 := blk_frozen HGz32 1
         clear HGz32 hgz32
         go_wp2_with (first | ((with_reducible refine gate_callee (f := 85) rfl ?_); refine goesL_ (some 14) rfl rfl Tryz.func85 (by kernel_rfl) rfl #[.pointer (some ⟨g, 0, none⟩)] rfl (by (try simp only [List.map_toArray, List.map_cons, List.map_nil]); rfl) ?_; (with_reducible refine (spec_reader_peek.calls g x1000_1 false t422 t423 t424 w0 _ ?side1 ?side2 A8.out).mono ?_); (case side1 => repeat ((with_reducible exact HI0.out))); (case side2 => repeat ((with_reducible exact HB.out))); rintro e w33 ⟨rfl, hi, hb, hk⟩; refine ⟨_, rfl, ?_⟩; have n0_ := Aside0.mk (Kd.R_mono (Kd.R_keep (IsS80.apart (show IsS80 w0 _ g x1000_1 false from by repeat ((with_reducible exact HI0.out))) (by (with_reducible repeat (first | apply Kd.R_alloc | apply Kd.R_drewN | apply Kd.R_drew)); exact HO_3.out) (by decide)) hk (fun _ h => h.2)) (fun _ h => h.1)); have n1_ := Aside0.mk (KeepBut.trans (by repeat ((with_reducible exact HK.out))) hk (.inl rfl)); have n2_ := Aside0.mk (hb); have n3_ := Aside0.mk (hi); clear HO_3; clear HK; clear HB; clear HI0; have HO_3 := n0_; have HK := n1_; have HB := n2_; have HI0 := n3_; clear n0_ n1_ n2_ n3_; (try clear hb); (try clear hb2); (try clear hk); (try clear hi)) | ((with_reducible refine gate_callee (f := 149) rfl ?_); refine goesL_ (some 29) rfl rfl Tryz.func149 (by kernel_rfl) rfl #[.pointer (some ⟨g, 0, none⟩), .string (⟨#[34]⟩ : ByteArray)] rfl (by (try simp only [List.map_toArray, List.map_cons, List.map_nil]); rfl) ?_; (with_reducible refine (spec_reader_take.calls g t423 t424 (⟨#[34]⟩ : ByteArray) false t426 t427 w0 _ ?side1 ?side2 A9.out).mono ?_); (case side1 => repeat ((with_reducible exact HI0.out))); (case side2 => repeat ((with_reducible exact HB.out))); rintro e w34 ⟨rfl, hi, hb, hk⟩; refine ⟨_, rfl, ?_⟩; have n0_ := Aside0.mk (Kd.R_mono (Kd.R_keep (IsS80.apart (show IsS80 w0 _ g t423 t424 from by repeat ((with_reducible exact HI0.out))) (by (with_reducible repeat (first | apply Kd.R_alloc | apply Kd.R_drewN | apply Kd.R_drew)); exact HO_3.out) (by decide)) hk (fun _ h => h.2)) (fun _ h => h.1)); have n1_ := Aside0.mk (KeepBut.trans (by repeat ((with_reducible exact HK.out))) hk (.inl rfl)); have n2_ := Aside0.mk (hb); have n3_ := Aside0.mk (hi); clear HO_3; clear HK; clear HB; clear HI0; have HO_3 := n0_; have HK := n1_; have HB := n2_; have HI0 := n3_; clear n0_ n1_ n2_ n3_; (try clear hb); (try clear hb2); (try clear hk); (try clear hi)) | ((with_reducible refine gate_callee (f := 149) rfl ?_); refine goesL_ (some 34) rfl rfl Tryz.func149 (by kernel_rfl) rfl #[.pointer (some ⟨g, 0, none⟩), .string (⟨#[92]⟩ : ByteArray)] rfl (by (try simp only [List.map_toArray, List.map_cons, List.map_nil]); rfl) ?_; (with_reducible refine (spec_reader_take.calls g t426 t427 (⟨#[92]⟩ : ByteArray) false t429 t430 w0 _ ?side1 ?side2 A15.out).mono ?_); (case side1 => repeat ((with_reducible exact HI0.out))); (case side2 => repeat ((with_reducible exact HB.out))); rintro e w35 ⟨rfl, hi, hb, hk⟩; refine ⟨_, rfl, ?_⟩; have n0_ := Aside0.mk (Kd.R_mono (Kd.R_keep (IsS80.apart (show IsS80 w0 _ g t426 t427 from by repeat ((with_reducible exact HI0.out))) (by (with_reducible repeat (first | apply Kd.R_alloc | apply Kd.R_drewN | apply Kd.R_drew)); exact HO_3.out) (by decide)) hk (fun _ h => h.2)) (fun _ h => h.1)); have n1_ := Aside0.mk (KeepBut.trans (by repeat ((with_reducible exact HK.out))) hk (.inl rfl)); have n2_ := Aside0.mk (hb); have n3_ := Aside0.mk (hi); clear HO_3; clear HK; clear HB; clear HI0; have HO_3 := n0_; have HK := n1_; have HB := n2_; have HI0 := n3_; clear n0_ n1_ n2_ n3_; (try clear hb); (try clear hb2); (try clear hk); (try clear hi); obtain ⟨HGz36, hgz36⟩ := HI0.out; have hcz36_0 := cellS80_0 HGz36; have hcz36_1 := cellS80_1 HGz36; have hfz36_0 := blk_frozen HGz36 0; have hfz36_1 := blk_frozen HGz36 1; clear HGz36 hgz36))
         go_roundg k1
         case measure => have := HK1.out; omega
         case rel => exact ⟨(x3_1), (t429), (true), H', ⟨by have := HK1.out; omega⟩, ⟨by (with_reducible repeat (first | apply Kd.R_alloc | apply Kd.R_drewN | apply Kd.R_drew)); exact Kd.R_mono (Kd.R_far (p := ⟨g, 1, none⟩) (IsS80.apart HI0.out HO_3.out (by decide)) (fun _ hk => hk.2) (.bool true)) (fun _ hk => trivial)⟩, ⟨by repeat ((with_reducible first | exact HI0.out | apply IsS80.set_1))⟩, ⟨by repeat ((with_reducible first | exact HK.out | apply KeepBut.set_ ))⟩, ⟨by repeat ((with_reducible first | exact HB.out | refine below_set ?_ (IsS80.ge HI0.out)))⟩⟩
        ·rw [if_neg c31] at H
         have c31b0 : decide (t422 < 32) = false := decide_eq_false c31
         clear c31
         by_cases c37 : x3_1.length < 140737488355328
         ·rw [if_pos c37] at H
          have LMc37 := Aside0.mk c37
          clear c37
          obtain ⟨y437, hy437⟩ : ∃ y_ : List Int, y_ = (x3_1 ++ [t422]) := ⟨_, rfl⟩
          replace H : (if 1 ≤ (t429.size : Int) then (spec_reader_text.l0 k1 y437 (t429.extract 1 t429.size) t430) else (none)) = some (r1, r2, r3) := by (rw [hy437]; with_reducible exact H)
          have Ny437 := Aside0.mk hy437
          clear hy437
          by_cases c38 : 1 ≤ (t429.size : Int)
          ·rw [if_pos c38] at H
           have c38b0 := eq_true c38
           have c38b1 : decide (1 ≤ (t429.size : Int)) = true := decide_eq_true c38
           clear c38
           have H' := Aside0.mk H
           clear H
           obtain ⟨HGz39, hgz39⟩ := HI0.out
           have hcz39_0 := cellS80_0 HGz39
           have hcz39_1 := cellS80_1 HGz39
           have hfz39_0 := blk_frozen HGz39 0
           have hfz39_1 := blk_frozen HGz39 1
           clear HGz39 hgz39
           go_wp2_with (first | ((with_reducible refine gate_callee (f := 85) rfl ?_); refine goesL_ (some 14) rfl rfl Tryz.func85 (by kernel_rfl) rfl #[.pointer (some ⟨g, 0, none⟩)] rfl (by (try simp only [List.map_toArray, List.map_cons, List.map_nil]); rfl) ?_; (with_reducible refine (spec_reader_peek.calls g x1000_1 false t422 t423 t424 w0 _ ?side1 ?side2 A8.out).mono ?_); (case side1 => repeat ((with_reducible exact HI0.out))); (case side2 => repeat ((with_reducible exact HB.out))); rintro e w40 ⟨rfl, hi, hb, hk⟩; refine ⟨_, rfl, ?_⟩; have n0_ := Aside0.mk (Kd.R_mono (Kd.R_keep (IsS80.apart (show IsS80 w0 _ g x1000_1 false from by repeat ((with_reducible exact HI0.out))) (by (with_reducible repeat (first | apply Kd.R_alloc | apply Kd.R_drewN | apply Kd.R_drew)); exact HO_3.out) (by decide)) hk (fun _ h => h.2)) (fun _ h => h.1)); have n1_ := Aside0.mk (KeepBut.trans (by repeat ((with_reducible exact HK.out))) hk (.inl rfl)); have n2_ := Aside0.mk (hb); have n3_ := Aside0.mk (hi); clear HO_3; clear HK; clear HB; clear HI0; have HO_3 := n0_; have HK := n1_; have HB := n2_; have HI0 := n3_; clear n0_ n1_ n2_ n3_; (try clear hb); (try clear hb2); (try clear hk); (try clear hi)) | ((with_reducible refine gate_callee (f := 149) rfl ?_); refine goesL_ (some 29) rfl rfl Tryz.func149 (by kernel_rfl) rfl #[.pointer (some ⟨g, 0, none⟩), .string (⟨#[34]⟩ : ByteArray)] rfl (by (try simp only [List.map_toArray, List.map_cons, List.map_nil]); rfl) ?_; (with_reducible refine (spec_reader_take.calls g t423 t424 (⟨#[34]⟩ : ByteArray) false t426 t427 w0 _ ?side1 ?side2 A9.out).mono ?_); (case side1 => repeat ((with_reducible exact HI0.out))); (case side2 => repeat ((with_reducible exact HB.out))); rintro e w41 ⟨rfl, hi, hb, hk⟩; refine ⟨_, rfl, ?_⟩; have n0_ := Aside0.mk (Kd.R_mono (Kd.R_keep (IsS80.apart (show IsS80 w0 _ g t423 t424 from by repeat ((with_reducible exact HI0.out))) (by (with_reducible repeat (first | apply Kd.R_alloc | apply Kd.R_drewN | apply Kd.R_drew)); exact HO_3.out) (by decide)) hk (fun _ h => h.2)) (fun _ h => h.1)); have n1_ := Aside0.mk (KeepBut.trans (by repeat ((with_reducible exact HK.out))) hk (.inl rfl)); have n2_ := Aside0.mk (hb); have n3_ := Aside0.mk (hi); clear HO_3; clear HK; clear HB; clear HI0; have HO_3 := n0_; have HK := n1_; have HB := n2_; have HI0 := n3_; clear n0_ n1_ n2_ n3_; (try clear hb); (try clear hb2); (try clear hk); (try clear hi)) | ((with_reducible refine gate_callee (f := 149) rfl ?_); refine goesL_ (some 34) rfl rfl Tryz.func149 (by kernel_rfl) rfl #[.pointer (some ⟨g, 0, none⟩), .string (⟨#[92]⟩ : ByteArray)] rfl (by (try simp only [List.map_toArray, List.map_cons, List.map_nil]); rfl) ?_; (with_reducible refine (spec_reader_take.calls g t426 t427 (⟨#[92]⟩ : ByteArray) false t429 t430 w0 _ ?side1 ?side2 A15.out).mono ?_); (case side1 => repeat ((with_reducible exact HI0.out))); (case side2 => repeat ((with_reducible exact HB.out))); rintro e w42 ⟨rfl, hi, hb, hk⟩; refine ⟨_, rfl, ?_⟩; have n0_ := Aside0.mk (Kd.R_mono (Kd.R_keep (IsS80.apart (show IsS80 w0 _ g t426 t427 from by repeat ((with_reducible exact HI0.out))) (by (with_reducible repeat (first | apply Kd.R_alloc | apply Kd.R_drewN | apply Kd.R_drew)); exact HO_3.out) (by decide)) hk (fun _ h => h.2)) (fun _ h => h.1)); have n1_ := Aside0.mk (KeepBut.trans (by repeat ((with_reducible exact HK.out))) hk (.inl rfl)); have n2_ := Aside0.mk (hb); have n3_ := Aside0.mk (hi); clear HO_3; clear HK; clear HB; clear HI0; have HO_3 := n0_; have HK := n1_; have HB := n2_; have HI0 := n3_; clear n0_ n1_ n2_ n3_; (try clear hb); (try clear hb2); (try clear hk); (try clear hi); obtain ⟨HGz43, hgz43⟩ := HI0.out; have hcz43_0 := cellS80_0 HGz43; have hcz43_1 := cellS80_1 HGz43; have hfz43_0 := blk_frozen HGz43 0; have hfz43_1 := blk_frozen HGz43 1; clear HGz43 hgz43) | ((with_reducible refine gate_builtin (b := .append) (xs := #[.tmp 15, .tmp 17]) rfl ?_); at_builtin; refine Kd.R_append (Kd.int .u8) w.heap.size rfl (.tmp 15) (.tmp 17) 22 5 (.int .u8 0) 1 rfl Tryz.underlying22 info5 rfl (by decide) (by omega) u3 x3_1 t422 [.int .u8 t422] (fun _ => True) (fun _ => False) rfl rfl ?aP (fun _ hk => hk.elim) ?aF ?aO (Below.refl _ _) ?aS ?aL ?_; (case aP => exact rfl); (case aF => exact (fun _ _ => trivial)); (case aO => exact (by (with_reducible repeat (first | apply Kd.R_alloc | apply Kd.R_drewN | apply Kd.R_drew)); exact HO_3.out)); (case aS => exact (keep_size (w := w) (g := g) (row := none) (by repeat ((with_reducible exact HK.out))))); (case aL => have := LMc37.out; omega); intro v438 w44 ho hb hg hat; rw [← Ny437.out] at ho; have n0_ := Aside0.mk (IsS80.grown (by repeat ((with_reducible exact HI0.out))) hg (IsS80.own_ne HI0.out HO_3.out (by decide))); have n1_ := Aside0.mk (below_weaken (by repeat ((with_reducible exact HB.out))) HL.out hb); have n2_ := Aside0.mk (KeepBut.trans (by repeat ((with_reducible exact HK.out))) (KeepBut.of_grown hg g) (Kd.R_base2 HO_3.out)); have n3_ := Aside0.mk (ho); clear HI0; clear HB; clear HK; clear HO_3; have HI0 := n0_; have HB := n1_; have HK := n2_; have HO439 := n3_; clear n0_ n1_ n2_ n3_; clear ho hb hg hat; obtain ⟨HGz45, hgz45⟩ := HI0.out; have hcz45_0 := cellS80_0 HGz45; have hcz45_1 := cellS80_1 HGz45; have hfz45_0 := blk_frozen HGz45 0; have hfz45_1 := blk_frozen HGz45 1; clear HGz45 hgz45))
           go_roundg k1
           case measure => have := HK1.out; omega
           case rel => exact ⟨(y437), (t429.extract 1 t429.size), (t430), H', ⟨by have := HK1.out; omega⟩, ⟨by (with_reducible repeat (first | apply Kd.R_alloc | apply Kd.R_drewN | apply Kd.R_drew)); exact Kd.R_mono (Kd.R_far (p := ⟨g, 0, none⟩) (IsS80.apart HI0.out HO439.out (by decide)) (fun _ hk => hk.2) (.string (t429.extract 1 t429.size))) (fun _ hk => trivial)⟩, ⟨by repeat ((with_reducible first | exact HI0.out | apply IsS80.set_0 ))⟩, ⟨by repeat ((with_reducible first | exact HK.out | apply KeepBut.set_ ))⟩, ⟨by repeat ((with_reducible first | exact HB.out | refine below_set ?_ (IsS80.ge HI0.out)))⟩⟩
          ·rw [if_neg c38] at H
           exact absurd H (by simp)
         ·rw [if_neg c37] at H
          exact absurd H (by simp)

end Go.Proofs.YtkihaebaccdjdaaGreatDoor.PX
