import Derived.Test.YtkihaebaccdjdaaGreatDoorJ4
namespace Go.Proofs.YtkihaebaccdjdaaGreatDoor.PX
open Go.RowKit Go.Proofs.YtkihaebaccdjdaaGreatDoorW.PrintWords Go.Proofs.YtkihaebaccdjdaaGreatDoorW.PrintLast Go.Proofs.YtkihaebaccdjdaaGreatDoorW.PrintMore
attribute [local go_sem] max2_int min2_int max_two min_two max_three min_three max_four min_four   -- for this text's walks alone
set_option linter.unusedVariables false
set_option linter.unusedSimpArgs false

/-! ### spec_Unsigned: function 147 -/
def spec_Unsigned.l0 : Nat → Int → List Int → Option (ByteArray)
  | 0, _, _ => none
  | k + 1, x0, x3 => (some (([(IntKind.u64.wrap (48 + (Int.tmod x0 10))) % 256] : List Int) : List Int)).bind fun y364 => (if y364.length + x3.length < 140737488355328 then ((some (y364 ++ x3 : List Int)).bind fun y367 => (if (IntKind.u64.wrap (Int.tdiv x0 10)) = 0 then (some (strOfNums y367)) else (spec_Unsigned.l0 k (IntKind.u64.wrap (Int.tdiv x0 10)) y367))) else (none))
def spec_Unsigned.f (k : Nat) (a0 : Int) : Option (ByteArray) := spec_Unsigned.l0 k a0 (([] : List Int))
set_option maxHeartbeats 8000000 in
set_option maxRecDepth 100000 in
theorem spec_Unsigned.calls (k : Nat) (a0 : Int) (r : ByteArray) (w : World) (h : spec_Unsigned.f k a0 = some r) :
    Calls Tryz.prog 147 #[.int .u64 a0] w fun e w' => e = .returned (.string r) ∧ Below w.heap.size w w' := by
  have HB := Aside0.mk (Below.refl w.heap.size w)
  have H : (spec_Unsigned.l0 k a0 (([] : List Int))) = some r := h
  clear h
  obtain ⟨y361, hy361⟩ : ∃ y_ : List Int, y_ = (([] : List Int)) := ⟨_, rfl⟩
  replace H : (spec_Unsigned.l0 k a0 y361) = some r := by first | (rw [hy361]; with_reducible exact H) | (have H2_ := (Option.bind_some _ _).symm.trans H; rw [hy361]; with_reducible exact H2_) | (have H2_ := (Option.bind_some _ _).symm.trans H; with_reducible exact H2_) | with_reducible exact H | (rw [hy361]; exact H) | exact H
  have Ny361 := Aside0.mk hy361
  clear hy361
  have H' := Aside0.mk H
  clear H
  go_enter Tryz.func147, Tryz.ntmps147
  go_wp2_with (first | ((with_reducible refine gate_dst (N := 4) rfl ?_); refine Kd.R_lit (Kd.int .u8) _ 5 ?hg (N := 4) ?hd (xs := ([] : List Int)) (inner := []) (ok := fun _ => True) (okp := fun _ => True) ?hr ?hp (fun _ hk => hk) trivial (Below.refl _ _) (Nat.le_refl _) (by simp) ?_; (case hd => rfl); (case hg => rfl); (case hr => first | (go_simp; done) | (go_simp; rfl)); (case hp => exact (Reps.none _ _)); intro v362 w2 ho3 hb hg_ hnew_; clear hg_ hnew_; (first | rw [← Ny361.out] at ho3 | (simp only [Int.reduceToNat] at ho3; rw [← Ny361.out] at ho3)); have n0_ := Aside0.mk (Kd.R_lower ho3 (below_size (by repeat (first | (with_reducible first | exact HB.out | apply below_alloc | apply pw_below_drewN | apply below_drew1) | exact HB.out)))); have n1_ := Aside0.mk (below_step (by repeat (first | (with_reducible first | exact HB.out | apply below_alloc | apply pw_below_drewN | apply below_drew1) | exact HB.out)) hb); clear HB; have HO363 := n0_; have HB := n1_; clear n0_ n1_; clear hb ho3))
  go_loopg [0, 3] k (fun kq v0 v3 w' => ∃ (x0_1 : Int) (x3_1 : List Int), v0 = .int .u64 x0_1 ∧ Aside0 (spec_Unsigned.l0 kq x0_1 x3_1 = some r) ∧ Aside0 (kq ≤ k) ∧ Aside0 (Kd.R (Kd.int .u8) 5 w' w.heap.size (fun _ => True) v3 x3_1) ∧ Aside0 (Below w.heap.size w w'))
  case atStart => exact ⟨(a0), (y361), (by first | rfl | (simp; done) | (simp [*]; done)), H', ⟨Nat.le_refl _⟩, ⟨by (with_reducible repeat (first | apply Kd.R_alloc | apply Kd.R_drewN | apply Kd.R_drew)); exact HO363.out⟩, ⟨by repeat (first | (with_reducible first | exact HB.out | apply below_alloc | apply pw_below_drewN | apply below_drew1) | exact HB.out)⟩⟩
  case round =>
    clear H'
    try clear c1
    try clear p2
    obtain ⟨x0_1, x3_1, rfl, HA, HK1, HO_3, HB⟩ := hrel
    cases gk with
    | zero => exact absurd HA.out (by simp [spec_Unsigned.l0])
    | succ k1 =>
      have H := HA.out
      clear HA
      simp only [spec_Unsigned.l0] at H
      obtain ⟨y364, hy364⟩ : ∃ y_ : List Int, y_ = (([(IntKind.u64.wrap (48 + (Int.tmod x0_1 10))) % 256] : List Int)) := ⟨_, rfl⟩
      replace H : (if y364.length + x3_1.length < 140737488355328 then ((some (y364 ++ x3_1 : List Int)).bind fun y367 => (if (IntKind.u64.wrap (Int.tdiv x0_1 10)) = 0 then (some (strOfNums y367)) else (spec_Unsigned.l0 k1 (IntKind.u64.wrap (Int.tdiv x0_1 10)) y367))) else (none)) = some r := by first | (rw [hy364]; with_reducible exact H) | (have H2_ := (Option.bind_some _ _).symm.trans H; rw [hy364]; with_reducible exact H2_) | (have H2_ := (Option.bind_some _ _).symm.trans H; with_reducible exact H2_) | with_reducible exact H | (rw [hy364]; exact H) | exact H
      have Ny364 := Aside0.mk hy364
      clear hy364
      by_cases c4 : y364.length + x3_1.length < 140737488355328
      · rw [if_pos c4] at H
        have LMc4 := Aside0.mk c4
        clear c4
        obtain ⟨y367, hy367⟩ : ∃ y_ : List Int, y_ = (y364 ++ x3_1) := ⟨_, rfl⟩
        replace H : (if (IntKind.u64.wrap (Int.tdiv x0_1 10)) = 0 then (some (strOfNums y367)) else (spec_Unsigned.l0 k1 (IntKind.u64.wrap (Int.tdiv x0_1 10)) y367)) = some r := by first | (rw [hy367]; with_reducible exact H) | (have H2_ := (Option.bind_some _ _).symm.trans H; rw [hy367]; with_reducible exact H2_) | (have H2_ := (Option.bind_some _ _).symm.trans H; with_reducible exact H2_) | with_reducible exact H | (rw [hy367]; exact H) | exact H
        have Ny367 := Aside0.mk hy367
        clear hy367
        by_cases c5 : (IntKind.u64.wrap (Int.tdiv x0_1 10)) = 0
        · rw [if_pos c5] at H
          have c5b0 : ((IntKind.u64.wrap (Int.tdiv x0_1 10)) == 0) = true := beq_iff_eq.mpr c5
          have c5b1 : ((IntKind.u64.wrap (Int.tdiv x0_1 10)) != 0) = false := bne_eq_false_iff_eq.mpr c5
          clear c5
          obtain rfl := Option.some.inj H
          go_wp2_with (first | ((with_reducible refine gate_dst (N := 9) rfl ?_); refine Kd.R_lit (Kd.int .u8) _ 5 ?hg (N := 9) ?hd (xs := ([(IntKind.u64.wrap (48 + (Int.tmod x0_1 10))) % 256] : List Int)) (inner := [.int .u8 ((IntKind.u64.wrap (48 + (Int.tmod x0_1 10))) % 256)]) (ok := fun _ => True) (okp := fun _ => True) ?hr ?hp (fun _ hk => hk) trivial (Below.refl _ _) (Nat.le_refl _) (by simp) ?_; (case hd => rfl); (case hg => rfl); (case hr => first | (go_simp; done) | (go_simp; rfl)); (case hp => exact (Reps.one (show Kd.M (Kd.int .u8) _ _ _ ((IntKind.u64.wrap (48 + (Int.tmod x0_1 10))) % 256) [.int .u8 ((IntKind.u64.wrap (48 + (Int.tmod x0_1 10))) % 256)] from rfl) (Reps.none _ _))); intro v365 w6 ho7 hb hg_ hnew_; clear hg_ hnew_; (first | rw [← Ny364.out] at ho7 | (simp only [Int.reduceToNat] at ho7; rw [← Ny364.out] at ho7)); have n0_ := Aside0.mk (Kd.R_elder' (by (with_reducible repeat (first | apply Kd.R_alloc | apply Kd.R_drewN | apply Kd.R_drew)); exact HO_3.out) (Kd.R_base ho7) hb); have n1_ := Aside0.mk (Kd.R_lower (Kd.R_new' ho7 (Kd.R_lt (by (with_reducible repeat (first | apply Kd.R_alloc | apply Kd.R_drewN | apply Kd.R_drew)); exact HO_3.out))) (below_size (by repeat (first | (with_reducible first | exact HB.out | apply below_alloc | apply pw_below_drewN | apply below_drew1) | exact HB.out)))); have n2_ := Aside0.mk (below_step (by repeat (first | (with_reducible first | exact HB.out | apply below_alloc | apply pw_below_drewN | apply below_drew1) | exact HB.out)) hb); clear HO_3; clear HB; have HO_3 := n0_; have HO366 := n1_; have HB := n2_; clear n0_ n1_ n2_; clear hb ho7; obtain ⟨Ao9, co9, eo9⟩ := Kd.R_slice HO_3.out; subst eo9) | ((with_reducible refine gate_builtin (b := .append) (xs := #[.tmp 9, .tmp 10]) rfl ?_); at_builtin; refine Kd.R_append_rows (Kd.int .u8) (w0 := w) w.heap.size rfl (.tmp 9) (.tmp 10) 22 5 (.int .u8 0) 1 rfl Tryz.underlying22 info5 rfl (by decide) (by omega) v365 y364 x3_1 _ _ _ (fun k_ => some k_ ≠ (.slice Ao9 x3_1.length co9 : Value).ownBlock) (fun _ => False) rfl rfl ?aO ?aR (fun _ _ h => h) (fun _ h => h.elim) ?aF ?aB ?aS ?aL ?_; (case aR => repeat (first | exact (Kd.R_reads' HO_3.out).2.2 | (with_reducible refine Kd.C_alloc ?_ _) | (with_reducible refine Kd.C_drewN ?_ _) | (with_reducible refine Kd.C_drew ?_))); (case aB => exact (by repeat (first | (with_reducible first | exact HB.out | apply below_alloc | apply pw_below_drewN | apply below_drew1) | exact HB.out))); (case aF => exact (fun k_ hk => Kd.fresh' (Kd.R_lt (by (with_reducible repeat (first | apply Kd.R_alloc | apply Kd.R_drewN | apply Kd.R_drew)); exact HO_3.out)) k_ hk)); (case aO => exact (by (with_reducible repeat (first | apply Kd.R_alloc | apply Kd.R_drewN | apply Kd.R_drew)); exact Kd.R_mono HO366.out (fun _ hk => hk.2))); (case aS => exact (below_size (by repeat (first | (with_reducible first | exact HB.out | apply below_alloc | apply pw_below_drewN | apply below_drew1) | exact HB.out)))); (case aL => have := LMc4.out; omega); intro v368 w8 ho hb hg hat; rw [← Ny367.out] at ho; have n0_ := Aside0.mk (Kd.R_after (ok := (fun _ => True)) (by (with_reducible repeat (first | apply Kd.R_alloc | apply Kd.R_drewN | apply Kd.R_drew)); exact HO_3.out) hg hat); have n1_ := Aside0.mk (hb); have n2_ := Aside0.mk (ho); clear HO_3; clear HB; clear HO366; have HO_3 := n0_; have HB := n1_; have HO369 := n2_; clear n0_ n1_ n2_; clear ho hb hg hat; have hcv10 := own_string (P := Tryz.prog) Tryz.underlying22 Tryz.underlying5 Tryz.underlying9 (Kd.own_of_R HO369.out)))
          go_ret
          exact ⟨by first | rfl | (simp [errW_none, errW_some] <;> rfl) | (simp [*, errW_none, errW_some] <;> rfl), by repeat (first | (with_reducible first | exact HB.out | apply below_alloc | apply pw_below_drewN | apply below_drew1) | exact HB.out)⟩
        · rw [if_neg c5] at H
          have c5b0 : ((IntKind.u64.wrap (Int.tdiv x0_1 10)) == 0) = false := beq_eq_false_iff_ne.mpr c5
          have c5b1 : ((IntKind.u64.wrap (Int.tdiv x0_1 10)) != 0) = true := bne_iff_ne.mpr c5
          have H' := Aside0.mk H
          clear H
          go_wp2_with (first | ((with_reducible refine gate_dst (N := 9) rfl ?_); refine Kd.R_lit (Kd.int .u8) _ 5 ?hg (N := 9) ?hd (xs := ([(IntKind.u64.wrap (48 + (Int.tmod x0_1 10))) % 256] : List Int)) (inner := [.int .u8 ((IntKind.u64.wrap (48 + (Int.tmod x0_1 10))) % 256)]) (ok := fun _ => True) (okp := fun _ => True) ?hr ?hp (fun _ hk => hk) trivial (Below.refl _ _) (Nat.le_refl _) (by simp) ?_; (case hd => rfl); (case hg => rfl); (case hr => first | (go_simp; done) | (go_simp; rfl)); (case hp => exact (Reps.one (show Kd.M (Kd.int .u8) _ _ _ ((IntKind.u64.wrap (48 + (Int.tmod x0_1 10))) % 256) [.int .u8 ((IntKind.u64.wrap (48 + (Int.tmod x0_1 10))) % 256)] from rfl) (Reps.none _ _))); intro v365 w11 ho12 hb hg_ hnew_; clear hg_ hnew_; (first | rw [← Ny364.out] at ho12 | (simp only [Int.reduceToNat] at ho12; rw [← Ny364.out] at ho12)); have n0_ := Aside0.mk (Kd.R_elder' (by (with_reducible repeat (first | apply Kd.R_alloc | apply Kd.R_drewN | apply Kd.R_drew)); exact HO_3.out) (Kd.R_base ho12) hb); have n1_ := Aside0.mk (Kd.R_lower (Kd.R_new' ho12 (Kd.R_lt (by (with_reducible repeat (first | apply Kd.R_alloc | apply Kd.R_drewN | apply Kd.R_drew)); exact HO_3.out))) (below_size (by repeat (first | (with_reducible first | exact HB.out | apply below_alloc | apply pw_below_drewN | apply below_drew1) | exact HB.out)))); have n2_ := Aside0.mk (below_step (by repeat (first | (with_reducible first | exact HB.out | apply below_alloc | apply pw_below_drewN | apply below_drew1) | exact HB.out)) hb); clear HO_3; clear HB; have HO_3 := n0_; have HO366 := n1_; have HB := n2_; clear n0_ n1_ n2_; clear hb ho12; obtain ⟨Ao14, co14, eo14⟩ := Kd.R_slice HO_3.out; subst eo14) | ((with_reducible refine gate_builtin (b := .append) (xs := #[.tmp 9, .tmp 10]) rfl ?_); at_builtin; refine Kd.R_append_rows (Kd.int .u8) (w0 := w) w.heap.size rfl (.tmp 9) (.tmp 10) 22 5 (.int .u8 0) 1 rfl Tryz.underlying22 info5 rfl (by decide) (by omega) v365 y364 x3_1 _ _ _ (fun k_ => some k_ ≠ (.slice Ao14 x3_1.length co14 : Value).ownBlock) (fun _ => False) rfl rfl ?aO ?aR (fun _ _ h => h) (fun _ h => h.elim) ?aF ?aB ?aS ?aL ?_; (case aR => repeat (first | exact (Kd.R_reads' HO_3.out).2.2 | (with_reducible refine Kd.C_alloc ?_ _) | (with_reducible refine Kd.C_drewN ?_ _) | (with_reducible refine Kd.C_drew ?_))); (case aB => exact (by repeat (first | (with_reducible first | exact HB.out | apply below_alloc | apply pw_below_drewN | apply below_drew1) | exact HB.out))); (case aF => exact (fun k_ hk => Kd.fresh' (Kd.R_lt (by (with_reducible repeat (first | apply Kd.R_alloc | apply Kd.R_drewN | apply Kd.R_drew)); exact HO_3.out)) k_ hk)); (case aO => exact (by (with_reducible repeat (first | apply Kd.R_alloc | apply Kd.R_drewN | apply Kd.R_drew)); exact Kd.R_mono HO366.out (fun _ hk => hk.2))); (case aS => exact (below_size (by repeat (first | (with_reducible first | exact HB.out | apply below_alloc | apply pw_below_drewN | apply below_drew1) | exact HB.out)))); (case aL => have := LMc4.out; omega); intro v368 w13 ho hb hg hat; rw [← Ny367.out] at ho; have n0_ := Aside0.mk (Kd.R_after (ok := (fun _ => True)) (by (with_reducible repeat (first | apply Kd.R_alloc | apply Kd.R_drewN | apply Kd.R_drew)); exact HO_3.out) hg hat); have n1_ := Aside0.mk (hb); have n2_ := Aside0.mk (ho); clear HO_3; clear HB; clear HO366; have HO_3 := n0_; have HB := n1_; have HO369 := n2_; clear n0_ n1_ n2_; clear ho hb hg hat))
          go_roundg k1
          case measure => have := HK1.out; omega
          case rel => exact ⟨(IntKind.u64.wrap (Int.tdiv x0_1 10)), (y367), (by first | rfl | (simp; done) | (simp [*]; done)), H', ⟨by have := HK1.out; omega⟩, ⟨by (with_reducible repeat (first | apply Kd.R_alloc | apply Kd.R_drewN | apply Kd.R_drew)); exact Kd.R_mono HO369.out (fun _ hk => trivial)⟩, ⟨by repeat (first | (with_reducible first | exact HB.out | apply below_alloc | apply pw_below_drewN | apply below_drew1) | exact HB.out)⟩⟩
      · rw [if_neg c4] at H
        exact absurd H (by simp)

end Go.Proofs.YtkihaebaccdjdaaGreatDoor.PX
