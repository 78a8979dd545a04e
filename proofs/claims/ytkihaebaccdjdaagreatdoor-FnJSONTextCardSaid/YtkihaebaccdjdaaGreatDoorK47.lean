import Derived.Test.YtkihaebaccdjdaaGreatDoorK7
namespace Go.Proofs.YtkihaebaccdjdaaGreatDoor.PX
open Go.RowKit Go.Proofs.YtkihaebaccdjdaaGreatDoorW.PrintWords Go.Proofs.YtkihaebaccdjdaaGreatDoorW.PrintLast Go.Proofs.YtkihaebaccdjdaaGreatDoorW.PrintMore
attribute [local go_sem] max2_int min2_int max_two min_two max_three min_three max_four min_four   -- for this text's walks alone
set_option linter.unusedVariables false
set_option linter.unusedSimpArgs false

/-! ### spec_utf8: function 192 -/
def spec_utf8.f (a0 : Int) : Option (ByteArray) := if a0 < 128 then (some (strOfNums (([(a0) % 256] : List Int)))) else (if a0 < 2048 then (some (strOfNums (([Go.bits .or .u8 192 ((a0 / 64) % 256), Go.bits .or .u8 128 ((Go.bits .and .i32 a0 63) % 256)] : List Int)))) else (if a0 < 65536 then (some (strOfNums (([Go.bits .or .u8 224 ((a0 / 4096) % 256), Go.bits .or .u8 128 ((Go.bits .and .i32 (a0 / 64) 63) % 256), Go.bits .or .u8 128 ((Go.bits .and .i32 a0 63) % 256)] : List Int)))) else (some (strOfNums (([Go.bits .or .u8 240 ((a0 / 262144) % 256), Go.bits .or .u8 128 ((Go.bits .and .i32 (a0 / 4096) 63) % 256), Go.bits .or .u8 128 ((Go.bits .and .i32 (a0 / 64) 63) % 256), Go.bits .or .u8 128 ((Go.bits .and .i32 a0 63) % 256)] : List Int))))))
set_option maxHeartbeats 8000000 in
set_option maxRecDepth 100000 in
theorem spec_utf8.calls (a0 : Int) (r : ByteArray) (w : World) (h : spec_utf8.f a0 = some r) :
    Calls Tryz.prog 192 #[.int .i32 a0] w fun e w' => e = .returned (.string r) ∧ Below w.heap.size w w' := by
  have HB := Aside0.mk (Below.refl w.heap.size w)
  have H : (if a0 < 128 then (some (strOfNums (([(a0) % 256] : List Int)))) else (if a0 < 2048 then (some (strOfNums (([Go.bits .or .u8 192 ((a0 / 64) % 256), Go.bits .or .u8 128 ((Go.bits .and .i32 a0 63) % 256)] : List Int)))) else (if a0 < 65536 then (some (strOfNums (([Go.bits .or .u8 224 ((a0 / 4096) % 256), Go.bits .or .u8 128 ((Go.bits .and .i32 (a0 / 64) 63) % 256), Go.bits .or .u8 128 ((Go.bits .and .i32 a0 63) % 256)] : List Int)))) else (some (strOfNums (([Go.bits .or .u8 240 ((a0 / 262144) % 256), Go.bits .or .u8 128 ((Go.bits .and .i32 (a0 / 4096) 63) % 256), Go.bits .or .u8 128 ((Go.bits .and .i32 (a0 / 64) 63) % 256), Go.bits .or .u8 128 ((Go.bits .and .i32 a0 63) % 256)] : List Int))))))) = some r := h
  clear h
  by_cases c2 : a0 < 128
  · rw [if_pos c2] at H
    have c2b0 : decide (a0 < 128) = true := decide_eq_true c2
    clear c2
    obtain ⟨y392, hy392⟩ : ∃ y_ : List Int, y_ = (([(a0) % 256] : List Int)) := ⟨_, rfl⟩
    replace H : (some (strOfNums y392)) = some r := by first | (rw [hy392]; with_reducible exact H) | (have H2_ := (Option.bind_some _ _).symm.trans H; rw [hy392]; with_reducible exact H2_) | (have H2_ := (Option.bind_some _ _).symm.trans H; with_reducible exact H2_) | with_reducible exact H | (rw [hy392]; exact H) | exact H
    have Ny392 := Aside0.mk hy392
    clear hy392
    obtain rfl := Option.some.inj H
    go_enter Tryz.func192, Tryz.ntmps192
    go_wp2_with (first | ((with_reducible refine gate_dst (N := 8) rfl ?_); refine Kd.R_lit (Kd.int .u8) _ 5 ?hg (N := 8) ?hd (xs := ([(a0) % 256] : List Int)) (inner := [.int .u8 ((a0) % 256)]) (ok := fun _ => True) (okp := fun _ => True) ?hr ?hp (fun _ hk => hk) trivial (Below.refl _ _) (Nat.le_refl _) (by simp) ?_; (case hd => rfl); (case hg => rfl); (case hr => first | (go_simp; done) | (go_simp; rfl)); (case hp => exact (Reps.one (show Kd.M (Kd.int .u8) _ _ _ ((a0) % 256) [.int .u8 ((a0) % 256)] from rfl) (Reps.none _ _))); intro v393 w3 ho4 hb hg_ hnew_; clear hg_ hnew_; (first | rw [← Ny392.out] at ho4 | (simp only [Int.reduceToNat] at ho4; rw [← Ny392.out] at ho4)); have n0_ := Aside0.mk (Kd.R_lower ho4 (below_size (by repeat (first | (with_reducible first | exact HB.out | apply below_alloc | apply pw_below_drewN | apply below_drew1) | exact HB.out)))); have n1_ := Aside0.mk (below_step (by repeat (first | (with_reducible first | exact HB.out | apply below_alloc | apply pw_below_drewN | apply below_drew1) | exact HB.out)) hb); clear HB; have HO394 := n0_; have HB := n1_; clear n0_ n1_; clear hb ho4; have hcv5 := own_string (P := Tryz.prog) Tryz.underlying22 Tryz.underlying5 Tryz.underlying9 (Kd.own_of_R HO394.out)))
    go_ret
    exact ⟨by first | rfl | (simp [errW_none, errW_some] <;> rfl) | (simp [*, errW_none, errW_some] <;> rfl), by repeat (first | (with_reducible first | exact HB.out | apply below_alloc | apply pw_below_drewN | apply below_drew1) | exact HB.out)⟩
  · rw [if_neg c2] at H
    have c2b0 : decide (a0 < 128) = false := decide_eq_false c2
    clear c2
    by_cases c6 : a0 < 2048
    · rw [if_pos c6] at H
      have c6b0 : decide (a0 < 2048) = true := decide_eq_true c6
      clear c6
      obtain ⟨y395, hy395⟩ : ∃ y_ : List Int, y_ = (([Go.bits .or .u8 192 ((a0 / 64) % 256), Go.bits .or .u8 128 ((Go.bits .and .i32 a0 63) % 256)] : List Int)) := ⟨_, rfl⟩
      replace H : (some (strOfNums y395)) = some r := by first | (rw [hy395]; with_reducible exact H) | (have H2_ := (Option.bind_some _ _).symm.trans H; rw [hy395]; with_reducible exact H2_) | (have H2_ := (Option.bind_some _ _).symm.trans H; with_reducible exact H2_) | with_reducible exact H | (rw [hy395]; exact H) | exact H
      have Ny395 := Aside0.mk hy395
      clear hy395
      obtain rfl := Option.some.inj H
      go_enter Tryz.func192, Tryz.ntmps192
      go_wp2_with (first | ((with_reducible refine gate_dst (N := 21) rfl ?_); refine Kd.R_lit (Kd.int .u8) _ 5 ?hg (N := 21) ?hd (xs := ([Go.bits .or .u8 192 ((a0 / 64) % 256), Go.bits .or .u8 128 ((Go.bits .and .i32 a0 63) % 256)] : List Int)) (inner := [.int .u8 (Go.bits .or .u8 192 ((a0 / 64) % 256)), .int .u8 (Go.bits .or .u8 128 ((Go.bits .and .i32 a0 63) % 256))]) (ok := fun _ => True) (okp := fun _ => True) ?hr ?hp (fun _ hk => hk) trivial (Below.refl _ _) (Nat.le_refl _) (by simp) ?_; (case hd => rfl); (case hg => rfl); (case hr => first | (go_simp; done) | (go_simp; rfl)); (case hp => exact (Reps.one (show Kd.M (Kd.int .u8) _ _ _ (Go.bits .or .u8 192 ((a0 / 64) % 256)) [.int .u8 (Go.bits .or .u8 192 ((a0 / 64) % 256))] from rfl) (Reps.one (show Kd.M (Kd.int .u8) _ _ _ (Go.bits .or .u8 128 ((Go.bits .and .i32 a0 63) % 256)) [.int .u8 (Go.bits .or .u8 128 ((Go.bits .and .i32 a0 63) % 256))] from rfl) (Reps.none _ _)))); intro v396 w7 ho8 hb hg_ hnew_; clear hg_ hnew_; (first | rw [← Ny395.out] at ho8 | (simp only [Int.reduceToNat] at ho8; rw [← Ny395.out] at ho8)); have n0_ := Aside0.mk (Kd.R_lower ho8 (below_size (by repeat (first | (with_reducible first | exact HB.out | apply below_alloc | apply pw_below_drewN | apply below_drew1) | exact HB.out)))); have n1_ := Aside0.mk (below_step (by repeat (first | (with_reducible first | exact HB.out | apply below_alloc | apply pw_below_drewN | apply below_drew1) | exact HB.out)) hb); clear HB; have HO397 := n0_; have HB := n1_; clear n0_ n1_; clear hb ho8; have hcv9 := own_string (P := Tryz.prog) Tryz.underlying22 Tryz.underlying5 Tryz.underlying9 (Kd.own_of_R HO397.out)))
      go_ret
      exact ⟨by first | rfl | (simp [errW_none, errW_some] <;> rfl) | (simp [*, errW_none, errW_some] <;> rfl), by repeat (first | (with_reducible first | exact HB.out | apply below_alloc | apply pw_below_drewN | apply below_drew1) | exact HB.out)⟩
    · rw [if_neg c6] at H
      have c6b0 : decide (a0 < 2048) = false := decide_eq_false c6
      clear c6
      by_cases c10 : a0 < 65536
      · rw [if_pos c10] at H
        have c10b0 : decide (a0 < 65536) = true := decide_eq_true c10
        clear c10
        obtain ⟨y398, hy398⟩ : ∃ y_ : List Int, y_ = (([Go.bits .or .u8 224 ((a0 / 4096) % 256), Go.bits .or .u8 128 ((Go.bits .and .i32 (a0 / 64) 63) % 256), Go.bits .or .u8 128 ((Go.bits .and .i32 a0 63) % 256)] : List Int)) := ⟨_, rfl⟩
        replace H : (some (strOfNums y398)) = some r := by first | (rw [hy398]; with_reducible exact H) | (have H2_ := (Option.bind_some _ _).symm.trans H; rw [hy398]; with_reducible exact H2_) | (have H2_ := (Option.bind_some _ _).symm.trans H; with_reducible exact H2_) | with_reducible exact H | (rw [hy398]; exact H) | exact H
        have Ny398 := Aside0.mk hy398
        clear hy398
        obtain rfl := Option.some.inj H
        go_enter Tryz.func192, Tryz.ntmps192
        go_wp2_with (first | ((with_reducible refine gate_dst (N := 39) rfl ?_); refine Kd.R_lit (Kd.int .u8) _ 5 ?hg (N := 39) ?hd (xs := ([Go.bits .or .u8 224 ((a0 / 4096) % 256), Go.bits .or .u8 128 ((Go.bits .and .i32 (a0 / 64) 63) % 256), Go.bits .or .u8 128 ((Go.bits .and .i32 a0 63) % 256)] : List Int)) (inner := [.int .u8 (Go.bits .or .u8 224 ((a0 / 4096) % 256)), .int .u8 (Go.bits .or .u8 128 ((Go.bits .and .i32 (a0 / 64) 63) % 256)), .int .u8 (Go.bits .or .u8 128 ((Go.bits .and .i32 a0 63) % 256))]) (ok := fun _ => True) (okp := fun _ => True) ?hr ?hp (fun _ hk => hk) trivial (Below.refl _ _) (Nat.le_refl _) (by simp) ?_; (case hd => rfl); (case hg => rfl); (case hr => first | (go_simp; done) | (go_simp; rfl)); (case hp => exact (Reps.one (show Kd.M (Kd.int .u8) _ _ _ (Go.bits .or .u8 224 ((a0 / 4096) % 256)) [.int .u8 (Go.bits .or .u8 224 ((a0 / 4096) % 256))] from rfl) (Reps.one (show Kd.M (Kd.int .u8) _ _ _ (Go.bits .or .u8 128 ((Go.bits .and .i32 (a0 / 64) 63) % 256)) [.int .u8 (Go.bits .or .u8 128 ((Go.bits .and .i32 (a0 / 64) 63) % 256))] from rfl) (Reps.one (show Kd.M (Kd.int .u8) _ _ _ (Go.bits .or .u8 128 ((Go.bits .and .i32 a0 63) % 256)) [.int .u8 (Go.bits .or .u8 128 ((Go.bits .and .i32 a0 63) % 256))] from rfl) (Reps.none _ _))))); intro v399 w11 ho12 hb hg_ hnew_; clear hg_ hnew_; (first | rw [← Ny398.out] at ho12 | (simp only [Int.reduceToNat] at ho12; rw [← Ny398.out] at ho12)); have n0_ := Aside0.mk (Kd.R_lower ho12 (below_size (by repeat (first | (with_reducible first | exact HB.out | apply below_alloc | apply pw_below_drewN | apply below_drew1) | exact HB.out)))); have n1_ := Aside0.mk (below_step (by repeat (first | (with_reducible first | exact HB.out | apply below_alloc | apply pw_below_drewN | apply below_drew1) | exact HB.out)) hb); clear HB; have HO400 := n0_; have HB := n1_; clear n0_ n1_; clear hb ho12; have hcv13 := own_string (P := Tryz.prog) Tryz.underlying22 Tryz.underlying5 Tryz.underlying9 (Kd.own_of_R HO400.out)))
        go_ret
        exact ⟨by first | rfl | (simp [errW_none, errW_some] <;> rfl) | (simp [*, errW_none, errW_some] <;> rfl), by repeat (first | (with_reducible first | exact HB.out | apply below_alloc | apply pw_below_drewN | apply below_drew1) | exact HB.out)⟩
      · rw [if_neg c10] at H
        have c10b0 : decide (a0 < 65536) = false := decide_eq_false c10
        clear c10
        obtain ⟨y401, hy401⟩ : ∃ y_ : List Int, y_ = (([Go.bits .or .u8 240 ((a0 / 262144) % 256), Go.bits .or .u8 128 ((Go.bits .and .i32 (a0 / 4096) 63) % 256), Go.bits .or .u8 128 ((Go.bits .and .i32 (a0 / 64) 63) % 256), Go.bits .or .u8 128 ((Go.bits .and .i32 a0 63) % 256)] : List Int)) := ⟨_, rfl⟩
        replace H : (some (strOfNums y401)) = some r := by first | (rw [hy401]; with_reducible exact H) | (have H2_ := (Option.bind_some _ _).symm.trans H; rw [hy401]; with_reducible exact H2_) | (have H2_ := (Option.bind_some _ _).symm.trans H; with_reducible exact H2_) | with_reducible exact H | (rw [hy401]; exact H) | exact H
        have Ny401 := Aside0.mk hy401
        clear hy401
        obtain rfl := Option.some.inj H
        go_enter Tryz.func192, Tryz.ntmps192
        go_wp2_with (first | ((with_reducible refine gate_dst (N := 59) rfl ?_); refine Kd.R_lit (Kd.int .u8) _ 5 ?hg (N := 59) ?hd (xs := ([Go.bits .or .u8 240 ((a0 / 262144) % 256), Go.bits .or .u8 128 ((Go.bits .and .i32 (a0 / 4096) 63) % 256), Go.bits .or .u8 128 ((Go.bits .and .i32 (a0 / 64) 63) % 256), Go.bits .or .u8 128 ((Go.bits .and .i32 a0 63) % 256)] : List Int)) (inner := [.int .u8 (Go.bits .or .u8 240 ((a0 / 262144) % 256)), .int .u8 (Go.bits .or .u8 128 ((Go.bits .and .i32 (a0 / 4096) 63) % 256)), .int .u8 (Go.bits .or .u8 128 ((Go.bits .and .i32 (a0 / 64) 63) % 256)), .int .u8 (Go.bits .or .u8 128 ((Go.bits .and .i32 a0 63) % 256))]) (ok := fun _ => True) (okp := fun _ => True) ?hr ?hp (fun _ hk => hk) trivial (Below.refl _ _) (Nat.le_refl _) (by simp) ?_; (case hd => rfl); (case hg => rfl); (case hr => first | (go_simp; done) | (go_simp; rfl)); (case hp => exact (Reps.one (show Kd.M (Kd.int .u8) _ _ _ (Go.bits .or .u8 240 ((a0 / 262144) % 256)) [.int .u8 (Go.bits .or .u8 240 ((a0 / 262144) % 256))] from rfl) (Reps.one (show Kd.M (Kd.int .u8) _ _ _ (Go.bits .or .u8 128 ((Go.bits .and .i32 (a0 / 4096) 63) % 256)) [.int .u8 (Go.bits .or .u8 128 ((Go.bits .and .i32 (a0 / 4096) 63) % 256))] from rfl) (Reps.one (show Kd.M (Kd.int .u8) _ _ _ (Go.bits .or .u8 128 ((Go.bits .and .i32 (a0 / 64) 63) % 256)) [.int .u8 (Go.bits .or .u8 128 ((Go.bits .and .i32 (a0 / 64) 63) % 256))] from rfl) (Reps.one (show Kd.M (Kd.int .u8) _ _ _ (Go.bits .or .u8 128 ((Go.bits .and .i32 a0 63) % 256)) [.int .u8 (Go.bits .or .u8 128 ((Go.bits .and .i32 a0 63) % 256))] from rfl) (Reps.none _ _)))))); intro v402 w14 ho15 hb hg_ hnew_; clear hg_ hnew_; (first | rw [← Ny401.out] at ho15 | (simp only [Int.reduceToNat] at ho15; rw [← Ny401.out] at ho15)); have n0_ := Aside0.mk (Kd.R_lower ho15 (below_size (by repeat (first | (with_reducible first | exact HB.out | apply below_alloc | apply pw_below_drewN | apply below_drew1) | exact HB.out)))); have n1_ := Aside0.mk (below_step (by repeat (first | (with_reducible first | exact HB.out | apply below_alloc | apply pw_below_drewN | apply below_drew1) | exact HB.out)) hb); clear HB; have HO403 := n0_; have HB := n1_; clear n0_ n1_; clear hb ho15; have hcv16 := own_string (P := Tryz.prog) Tryz.underlying22 Tryz.underlying5 Tryz.underlying9 (Kd.own_of_R HO403.out)))
        go_ret
        exact ⟨by first | rfl | (simp [errW_none, errW_some] <;> rfl) | (simp [*, errW_none, errW_some] <;> rfl), by repeat (first | (with_reducible first | exact HB.out | apply below_alloc | apply pw_below_drewN | apply below_drew1) | exact HB.out)⟩

end Go.Proofs.YtkihaebaccdjdaaGreatDoor.PX
