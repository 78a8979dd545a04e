import Derived.Test.YtclmjmfcggkpaaaGreatDoorU6
import Derived.Test.YtclmjmfcggkpaaaGreatDoorU4
import Derived.Test.YtclmjmfcggkpaaaGreatDoorU46
namespace Go.Proofs.YtclmjmfcggkpaaaGreatDoor.PX
open Go.RowKit Go.Proofs.YtclmjmfcggkpaaaGreatDoorW.PrintWords Go.Proofs.YtclmjmfcggkpaaaGreatDoorW.PrintLast Go.Proofs.YtclmjmfcggkpaaaGreatDoorW.PrintMore
attribute [local go_sem] max2_int min2_int max_two min_two max_three min_three max_four min_four   -- for this text's walks alone
set_option linter.unusedVariables false
set_option linter.unusedSimpArgs false

/-! ### spec_QueryPairs: function 24 -/
mutual
def spec_QueryPairs.l0 : Nat → List (S65) → List (S48) → Int → Int → Option ((List (S65)))
 | 0, _, _, _, _ => none
 | k + 1, x5, x14, x15, x16 => if x16 < x15 then (if 0 ≤ x16 then (if x16 < (x14.length : Int) then (if ((rd_T48 x14 x16).f0) = 1 then (spec_QueryPairs.l1 k (([] : List (S65))) x14 x15 x16 x5 (x5.length : Int) 0 ((rd_T48 x14 x16).f0) ((rd_T48 x14 x16).f1) ((rd_T48 x14 x16).f2) ((rd_T48 x14 x16).f3) ((rd_T48 x14 x16).f4) ((rd_T48 x14 x16).f5)) else ((spec_Text.f k ((rd_T48 x14 x16).f3) ((rd_T48 x14 x16).f4) ((rd_T48 x14 x16).f5)).bind fun t442 => (if x5.length < 3518437208883 then (spec_QueryPairs.l0 k (x5 ++ [(⟨(rd_T48 x14 x16).f2, t442, false⟩ : S65)]) x14 x15 (wrap64 (x16 + 1))) else (none)))) else (none)) else (none)) else (some x5)
def spec_QueryPairs.l1 : Nat → List (S65) → List (S48) → Int → Int → List (S65) → Int → Int → Int → ByteArray → ByteArray → Int → ByteArray → Int → Option ((List (S65)))
 | 0, _, _, _, _, _, _, _, _, _, _, _, _, _ => none
 | k + 1, x8, x14, x15, x16, x24, x25, x26, x430000, x430001, x430002, x430003, x430004, x430005 => if x26 < x25 then (if 0 ≤ x26 then (if x26 < (x24.length : Int) then (if ((rd_T65 x24 x26).f0).toList = x430002.toList then (spec_QueryPairs.l1 k x8 x14 x15 x16 x24 x25 (wrap64 (x26 + 1)) x430000 x430001 x430002 x430003 x430004 x430005) else (if x8.length < 3518437208883 then (spec_QueryPairs.l1 k (x8 ++ [(⟨(rd_T65 x24 x26).f0, (rd_T65 x24 x26).f1, (rd_T65 x24 x26).f2⟩ : S65)]) x14 x15 x16 x24 x25 (wrap64 (x26 + 1)) x430000 x430001 x430002 x430003 x430004 x430005) else (none))) else (none)) else (none)) else ((spec_Text.f k x430003 x430004 x430005).bind fun t438 => (if x8.length < 3518437208883 then (spec_QueryPairs.l0 k (x8 ++ [(⟨x430002, t438, false⟩ : S65)]) x14 x15 (wrap64 (x16 + 1))) else (none)))
end
def spec_QueryPairs.f (k : Nat) (l0 : List (S65)) (l1 : List (S48)) : Option ((List (S65))) := (some (([] : List (S65)) : List (S65))).bind fun y422 => (if y422.length + l0.length < 3518437208883 then (spec_QueryPairs.l0 k (y422 ++ l0) l1 (l1.length : Int) 0) else (none))
def spec_QueryPairs.T14 : Bool × List (List Nat × List Nat) := (true, [([], []), ([], []), ([1], [1]), ([], []), ([3], [3]), ([], []), ([5], [5]), ([], []), ([7], [7]), ([4, 6, 8], [4, 6, 8]), ([2, 9], [2, 9]), ([10], [10]), ([0, 11, 9], [0, 11]), ([12, 12, 0, 1, 2, 3, 4, 5, 6, 7, 8, 9, 10, 11, 12], [0, 12])])
def spec_QueryPairs.B14 : List Nat := [0, 0, 2, 0, 8, 0, 32, 0, 128, 504, 1022, 2046, 4095, 8191]
theorem spec_QueryPairs.tab14 : rtab .any (opsOf Tryz.f24 14) = spec_QueryPairs.T14 := by kernel_rfl
theorem spec_QueryPairs.bits14 : waitsOk spec_QueryPairs.T14.2 spec_QueryPairs.B14 = true := by kernel_rfl
set_option maxHeartbeats 8000000 in
set_option maxRecDepth 100000 in
theorem spec_QueryPairs.calls (k : Nat) (A0 : Option Addr) (c0 : Nat) (l0 : List (S65)) (A1 : Option Addr) (c1 : Nat) (l1 : List (S48)) (r : List (S65)) (w : World) (hr0 : Kd.C k65 w A0 l0.length l0) (hc0 : l0.length ≤ c0) (hr1 : Kd.C k48 w A1 l1.length l1) (hc1 : l1.length ≤ c1) (h : spec_QueryPairs.f k l0 l1 = some r) :
 Calls Tryz.prog 24 #[.slice A0 l0.length c0, .slice A1 l1.length c1] w fun e w' => ∃ v0_ : Value, e = .returned (v0_) ∧ Kd.R k65 65 w' w.heap.size (fun _ => True) v0_ r ∧ Below w.heap.size w w' := by
 have hu48 := Tryz.underlying48
 have hu65 := Tryz.underlying65
 have HR0 := Aside0.mk hr0
 have HC0 := Aside0.mk hc0
 clear hr0 hc0
 have HR1 := Aside0.mk hr1
 have HC1 := Aside0.mk hc1
 clear hr1 hc1
 have HB := Aside0.mk (Below.refl w.heap.size w)
 have H : ((some (([] : List (S65)) : List (S65))).bind fun y422 => (if y422.length + l0.length < 3518437208883 then (spec_QueryPairs.l0 k (y422 ++ l0) l1 (l1.length : Int) 0) else (none))) = some r := h
 clear h
 obtain ⟨y422, hy422⟩ : ∃ y_ : List (S65), y_ = (([] : List (S65))) := ⟨_, rfl⟩
 replace H : (if y422.length + l0.length < 3518437208883 then (spec_QueryPairs.l0 k (y422 ++ l0) l1 (l1.length : Int) 0) else (none)) = some r := by (have H2_ := (Option.bind_some _ _).symm.trans H; rw [hy422]; with_reducible exact H2_)
 have Ny422 := Aside0.mk hy422
 clear hy422
 by_cases c3 : y422.length + l0.length < 3518437208883
 ·rw [if_pos c3] at H
  have LMc3 := Aside0.mk c3
  clear c3
  obtain ⟨y425, hy425⟩ : ∃ y_ : List (S65), y_ = (y422 ++ l0) := ⟨_, rfl⟩
  replace H : (spec_QueryPairs.l0 k y425 l1 (l1.length : Int) 0) = some r := by (rw [hy425]; with_reducible exact H)
  have Ny425 := Aside0.mk hy425
  clear hy425
  have H' := Aside0.mk H
  clear H
  go_enter Tryz.func24, Tryz.ntmps24
  go_wp2_with (first | ((with_reducible refine gate_dst (N := 11) rfl ?_); refine Kd.R_lit k65 _ 65 ?hg (N := 11) ?hd (xs := ([] : List (S65))) (inner := []) (ok := fun _ => True) (okp := fun _ => True) ?hr ?hp (fun _ hk => hk) trivial (Below.refl _ _) (Nat.le_refl _) (by simp) ?_; (case hd => rfl); (case hg => rfl); (case hr => first | (go_simp; done) | (go_simp; rfl)); (case hp => exact (Reps.none _ _)); intro v423 w4 ho5 hb hg_ hnew_; clear hg_ hnew_; (rw [← Ny422.out] at ho5); have n0_ := Aside0.mk (Kd.R_lower ho5 (below_size (by repeat ((with_reducible exact HB.out))))); have n1_ := Aside0.mk (below_step (by repeat ((with_reducible exact HB.out))) hb); clear HB; have HO424 := n0_; have HB := n1_; clear n0_ n1_; clear hb ho5) | ((with_reducible refine gate_builtin (b := .append) (xs := #[.tmp 11, .tmp 12]) rfl ?_); at_builtin; refine Kd.R_append_rows k65 (w0 := w) w.heap.size rfl (.tmp 11) (.tmp 12) 23 65 (.agg #[(.string ⟨#[]⟩), (.string ⟨#[]⟩), (.bool false)]) 40 rfl Tryz.underlying23 info65 rfl (by decide) (by omega) v423 y422 l0 _ _ _ (fun _ => True) (fun _ => False) rfl rfl ?aO ?aR (fun _ _ h => h) (fun _ h => h.elim) ?aF ?aB ?aS ?aL ?_; (case aR => repeat (exact (Kd.C_below HR0.out HB.out))); (case aB => exact (by repeat ((with_reducible exact HB.out)))); (case aF => exact (fun _ _ => trivial)); (case aO => exact (by (with_reducible repeat (first | apply Kd.R_alloc | apply Kd.R_drewN | apply Kd.R_drew)); exact HO424.out)); (case aS => exact (below_size (by repeat ((with_reducible exact HB.out))))); (case aL => have := LMc3.out; omega); intro v426 w6 ho hb hg hat; rw [← Ny425.out] at ho; have n0_ := Aside0.mk (hb); have n1_ := Aside0.mk (ho); clear HB; clear HO424; have HB := n0_; have HO427 := n1_; clear n0_ n1_; clear ho hb hg hat))
  go_loopg [5, 16] k (fun kq v5 v16 w' => ∃ (x5_1 : List (S65)) (x16_1 : Int), v16 = .int .i64 x16_1 ∧ Aside0 (spec_QueryPairs.l0 kq x5_1 l1 (l1.length : Int) x16_1 = some r) ∧ Aside0 (kq ≤ k) ∧ Aside0 (Kd.R k65 65 w' w.heap.size (fun _ => True) v5 x5_1) ∧ Aside0 (Below w.heap.size w w'))
  case atStart => exact ⟨(y425), (0), (by first | rfl | (simp; done) | (simp [*]; done)), H', ⟨Nat.le_refl _⟩, ⟨by (with_reducible repeat (first | apply Kd.R_alloc | apply Kd.R_drewN | apply Kd.R_drew)); exact HO427.out⟩, ⟨by repeat ((with_reducible exact HB.out))⟩⟩
  case round =>
   clear H'
   try clear c1
   try clear c2
   try clear p2
   try clear c3
   obtain ⟨x5_1, x16_1, rfl, HA, HK1, HO_5, HB⟩ := hrel
   cases gk with
   | zero => exact absurd HA.out (by simp [spec_QueryPairs.l0])
   | succ k1 =>
     have H := HA.out
     clear HA
     simp only [spec_QueryPairs.l0] at H
     by_cases c7 : x16_1 < (l1.length : Int)
     ·rw [if_pos c7] at H
      have c7b0 : decide (x16_1 < (l1.length : Int)) = true := decide_eq_true c7
      clear c7
      by_cases c8 : 0 ≤ x16_1
      ·rw [if_pos c8] at H
       have c8b0 : decide (0 ≤ x16_1) = true := decide_eq_true c8
       clear c8
       by_cases c9 : x16_1 < (l1.length : Int)
       ·rw [if_pos c9] at H
        have c9b0 : decide (x16_1 < (l1.length : Int)) = true := decide_eq_true c9
        clear c9
        by_cases c10 : ((rd_T48 l1 x16_1).f0) = 1
        ·rw [if_pos c10] at H
         have c10b0 : (((rd_T48 l1 x16_1).f0) == 1) = true := beq_iff_eq.mpr c10
         have c10b1 : (((rd_T48 l1 x16_1).f0) != 1) = false := bne_eq_false_iff_eq.mpr c10
         clear c10
         obtain ⟨y430, hy430⟩ : ∃ y_ : List (S65), y_ = (([] : List (S65))) := ⟨_, rfl⟩
         replace H : (spec_QueryPairs.l1 k1 y430 l1 (l1.length : Int) x16_1 x5_1 (x5_1.length : Int) 0 ((rd_T48 l1 x16_1).f0) ((rd_T48 l1 x16_1).f1) ((rd_T48 l1 x16_1).f2) ((rd_T48 l1 x16_1).f3) ((rd_T48 l1 x16_1).f4) ((rd_T48 l1 x16_1).f5)) = some r := by (rw [hy430]; with_reducible exact H)
         have Ny430 := Aside0.mk hy430
         clear hy430
         have H' := Aside0.mk H
         clear H
         have p428 : 0 ≤ (x16_1 : Int) := of_decide_eq_true (by first | (with_reducible assumption) | assumption)
         have q428 : x16_1 < (l1.length : Int) := of_decide_eq_true (by first | (with_reducible assumption) | assumption)
         obtain ⟨ad428, e428, hx428_0, hx428_1, hx428_2, hx428_3, hx428_4, hx428_5⟩ := at_T48 HR1.out x16_1 p428 q428
         cases e428
         replace hx428_0 := (HB.out.cell (World.block_lt_of_cell? w _ hx428_0)).trans hx428_0
         replace hx428_1 := (HB.out.cell (World.block_lt_of_cell? w _ hx428_1)).trans hx428_1
         replace hx428_2 := (HB.out.cell (World.block_lt_of_cell? w _ hx428_2)).trans hx428_2
         replace hx428_3 := (HB.out.cell (World.block_lt_of_cell? w _ hx428_3)).trans hx428_3
         replace hx428_4 := (HB.out.cell (World.block_lt_of_cell? w _ hx428_4)).trans hx428_4
         replace hx428_5 := (HB.out.cell (World.block_lt_of_cell? w _ hx428_5)).trans hx428_5
         replace p428 := eq_true p428
         replace q428 := eq_true q428
         go_wp2_with (first | ((with_reducible refine gate_dst (N := 7) rfl ?_); refine box_event ?hg (N := 7) ?hd (cs := #[.int .i64 0, .string (⟨#[]⟩ : ByteArray), .string (⟨#[]⟩ : ByteArray), .int .i64 0, .string (⟨#[]⟩ : ByteArray), .int .i64 0]) (t := 48) ?hr ?_; (case hd => rfl); (case hg => rfl); (case hr => first | (go_simp; done) | (go_simp; rfl)); intro gb429 hg w11 hbox hb; have n0_ := Aside0.mk (Kd.R_below (by (with_reducible repeat (first | apply Kd.R_alloc | apply Kd.R_drewN | apply Kd.R_drew)); exact HO_5.out) hb); have n1_ := Aside0.mk (below_step (by repeat ((with_reducible exact HB.out))) hb); have n2_ := Aside0.mk (hbox); have n3_ := Aside0.mk ((by rw [hg]; exact (below_size (by repeat ((with_reducible exact HB.out)))) : w.heap.size ≤ gb429)); have n4_ := Aside0.mk ((by rw [hg]; exact (below_size (by repeat ((with_reducible exact HB.out)))) : w.heap.size ≤ gb429)); clear HO_5; clear HB; have HO_5 := n0_; have HB := n1_; have BK429 := n2_; have GW429 := n3_; have GE429 := n4_; clear n0_ n1_ n2_ n3_ n4_; clear hb hbox hg; have hcz12_0 : w11.cell? ⟨gb429, 0, none⟩ = some (.int .i64 0) := (blk_cell BK429.out 0).trans rfl; have hcz12_1 : w11.cell? ⟨gb429, 1, none⟩ = some (.string (⟨#[]⟩ : ByteArray)) := (blk_cell BK429.out 1).trans rfl; have hcz12_2 : w11.cell? ⟨gb429, 2, none⟩ = some (.string (⟨#[]⟩ : ByteArray)) := (blk_cell BK429.out 2).trans rfl; have hcz12_3 : w11.cell? ⟨gb429, 3, none⟩ = some (.int .i64 0) := (blk_cell BK429.out 3).trans rfl; have hcz12_4 : w11.cell? ⟨gb429, 4, none⟩ = some (.string (⟨#[]⟩ : ByteArray)) := (blk_cell BK429.out 4).trans rfl; have hcz12_5 : w11.cell? ⟨gb429, 5, none⟩ = some (.int .i64 0) := (blk_cell BK429.out 5).trans rfl; have hfz12_0 := blk_frozen BK429.out 0; have hfz12_1 := blk_frozen BK429.out 1; have hfz12_2 := blk_frozen BK429.out 2; have hfz12_3 := blk_frozen BK429.out 3; have hfz12_4 := blk_frozen BK429.out 4; have hfz12_5 := blk_frozen BK429.out 5) | ((with_reducible refine gate_dst (N := 23) rfl ?_); refine Kd.R_lit k65 _ 65 ?hg (N := 23) ?hd (xs := ([] : List (S65))) (inner := []) (ok := fun _ => True) (okp := fun _ => True) ?hr ?hp (fun _ hk => hk) trivial (Below.refl _ _) (Nat.le_refl _) (by simp) ?_; (case hd => rfl); (case hg => rfl); (case hr => first | (go_simp; done) | (go_simp; rfl)); (case hp => exact (Reps.none _ _)); intro v431 w13 ho14 hb hg_ hnew_; clear hg_ hnew_; (rw [← Ny430.out] at ho14); have n0_ := Aside0.mk (Kd.R_elder' (by (with_reducible repeat (first | apply Kd.R_alloc | apply Kd.R_drewN | apply Kd.R_drew)); exact (Kd.R_mono (Kd.R_far (p := ⟨gb429, 5, none⟩) (Kd.R_far (p := ⟨gb429, 4, none⟩) (Kd.R_far (p := ⟨gb429, 3, none⟩) (Kd.R_far (p := ⟨gb429, 2, none⟩) (Kd.R_far (p := ⟨gb429, 1, none⟩) (Kd.R_far (p := ⟨gb429, 0, none⟩) (Kd.R_types HO_5.out BK429.out (by decide)) (fun _ hk => hk.2) (.int .i64 ((rd_T48 l1 x16_1).f0))) (fun _ hk => hk.2) (.string ((rd_T48 l1 x16_1).f1))) (fun _ hk => hk.2) (.string ((rd_T48 l1 x16_1).f2))) (fun _ hk => hk.2) (.int .i64 ((rd_T48 l1 x16_1).f3))) (fun _ hk => hk.2) (.string ((rd_T48 l1 x16_1).f4))) (fun _ hk => hk.2) (.int .i64 ((rd_T48 l1 x16_1).f5))) (fun _ h_ => h_.1))) (Kd.R_base ho14) hb); have n1_ := Aside0.mk (Kd.R_lower (Kd.R_new' ho14 (Kd.R_lt (by (with_reducible repeat (first | apply Kd.R_alloc | apply Kd.R_drewN | apply Kd.R_drew)); exact (Kd.R_mono (Kd.R_far (p := ⟨gb429, 5, none⟩) (Kd.R_far (p := ⟨gb429, 4, none⟩) (Kd.R_far (p := ⟨gb429, 3, none⟩) (Kd.R_far (p := ⟨gb429, 2, none⟩) (Kd.R_far (p := ⟨gb429, 1, none⟩) (Kd.R_far (p := ⟨gb429, 0, none⟩) (Kd.R_types HO_5.out BK429.out (by decide)) (fun _ hk => hk.2) (.int .i64 ((rd_T48 l1 x16_1).f0))) (fun _ hk => hk.2) (.string ((rd_T48 l1 x16_1).f1))) (fun _ hk => hk.2) (.string ((rd_T48 l1 x16_1).f2))) (fun _ hk => hk.2) (.int .i64 ((rd_T48 l1 x16_1).f3))) (fun _ hk => hk.2) (.string ((rd_T48 l1 x16_1).f4))) (fun _ hk => hk.2) (.int .i64 ((rd_T48 l1 x16_1).f5))) (fun _ h_ => h_.1))))) (below_size (by repeat ((with_reducible first | exact HB.out | refine below_set ?_ GE429.out))))); have n2_ := Aside0.mk (blk_below (g := gb429) (o := .cells #[.int .i64 ((rd_T48 l1 x16_1).f0), .string ((rd_T48 l1 x16_1).f1), .string ((rd_T48 l1 x16_1).f2), .int .i64 ((rd_T48 l1 x16_1).f3), .string ((rd_T48 l1 x16_1).f4), .int .i64 ((rd_T48 l1 x16_1).f5)] 48 (0, 0)) (by (with_reducible repeat (fail)); refine blk_put (cs := #[.int .i64 ((rd_T48 l1 x16_1).f0), .string ((rd_T48 l1 x16_1).f1), .string ((rd_T48 l1 x16_1).f2), .int .i64 ((rd_T48 l1 x16_1).f3), .string ((rd_T48 l1 x16_1).f4), .int .i64 0]) ?_ 5 _ rfl; (with_reducible repeat (fail)); refine blk_put (cs := #[.int .i64 ((rd_T48 l1 x16_1).f0), .string ((rd_T48 l1 x16_1).f1), .string ((rd_T48 l1 x16_1).f2), .int .i64 ((rd_T48 l1 x16_1).f3), .string (⟨#[]⟩ : ByteArray), .int .i64 0]) ?_ 4 _ rfl; (with_reducible repeat (fail)); refine blk_put (cs := #[.int .i64 ((rd_T48 l1 x16_1).f0), .string ((rd_T48 l1 x16_1).f1), .string ((rd_T48 l1 x16_1).f2), .int .i64 0, .string (⟨#[]⟩ : ByteArray), .int .i64 0]) ?_ 3 _ rfl; (with_reducible repeat (fail)); refine blk_put (cs := #[.int .i64 ((rd_T48 l1 x16_1).f0), .string ((rd_T48 l1 x16_1).f1), .string (⟨#[]⟩ : ByteArray), .int .i64 0, .string (⟨#[]⟩ : ByteArray), .int .i64 0]) ?_ 2 _ rfl; (with_reducible repeat (fail)); refine blk_put (cs := #[.int .i64 ((rd_T48 l1 x16_1).f0), .string (⟨#[]⟩ : ByteArray), .string (⟨#[]⟩ : ByteArray), .int .i64 0, .string (⟨#[]⟩ : ByteArray), .int .i64 0]) ?_ 1 _ rfl; (with_reducible repeat (fail)); refine blk_put (cs := #[.int .i64 0, .string (⟨#[]⟩ : ByteArray), .string (⟨#[]⟩ : ByteArray), .int .i64 0, .string (⟨#[]⟩ : ByteArray), .int .i64 0]) ?_ 0 _ rfl; (with_reducible repeat (fail)); exact BK429.out) hb); have n3_ := Aside0.mk (below_step (by repeat ((with_reducible first | exact HB.out | refine below_set ?_ GE429.out))) hb); clear HO_5; clear BK429; clear HB; have HO_5 := n0_; have HO432 := n1_; have BK429 := n2_; have HB := n3_; clear n0_ n1_ n2_ n3_; clear hb ho14; obtain ⟨Ao15, co15, eo15⟩ := Kd.R_slice HO_5.out; subst eo15))
         go_loopg [8, 26] k1 (fun kq v8 v26 w' => ∃ (x8_2 : List (S65)) (x26_2 : Int), v26 = .int .i64 x26_2 ∧ Aside0 (spec_QueryPairs.l1 kq x8_2 l1 (l1.length : Int) x16_1 x5_1 (x5_1.length : Int) x26_2 ((rd_T48 l1 x16_1).f0) ((rd_T48 l1 x16_1).f1) ((rd_T48 l1 x16_1).f2) ((rd_T48 l1 x16_1).f3) ((rd_T48 l1 x16_1).f4) ((rd_T48 l1 x16_1).f5) = some r) ∧ Aside0 (kq ≤ k1) ∧ Aside0 (Kd.R k65 65 w' w.heap.size (fun k_ => some k_ ≠ ((.slice Ao15 x5_1.length co15) : Value).ownBlock) v8 x8_2) ∧ Aside0 (Kd.R k65 65 w' w.heap.size (fun k_ => some k_ ≠ (v8 : Value).ownBlock) (.slice Ao15 x5_1.length co15) x5_1) ∧ Aside0 (w'.heap[gb429]? = some (.cells #[.int .i64 ((rd_T48 l1 x16_1).f0), .string ((rd_T48 l1 x16_1).f1), .string ((rd_T48 l1 x16_1).f2), .int .i64 ((rd_T48 l1 x16_1).f3), .string ((rd_T48 l1 x16_1).f4), .int .i64 ((rd_T48 l1 x16_1).f5)] 48 (0, 0))) ∧ Aside0 (Below w.heap.size w w'))
         case atStart => exact ⟨(y430), (0), (by first | rfl | (simp; done) | (simp [*]; done)), H', ⟨Nat.le_refl _⟩, ⟨by (with_reducible repeat (first | apply Kd.R_alloc | apply Kd.R_drewN | apply Kd.R_drew)); exact Kd.R_mono HO432.out (fun _ hk => hk.2)⟩, ⟨by (with_reducible repeat (first | apply Kd.R_alloc | apply Kd.R_drewN | apply Kd.R_drew)); exact Kd.R_mono HO_5.out (fun _ hk => hk.2)⟩, ⟨by (with_reducible repeat (fail)); exact BK429.out⟩, ⟨by repeat ((with_reducible exact HB.out))⟩⟩
         case round =>
          clear H'
          try clear c1
          try clear c2
          try clear p2
          try clear c3
          try clear p4
          try clear q4
          try clear hx4
          try clear c7
          try clear c7b0
          try clear c8
          try clear c8b0
          try clear c9
          try clear c9b0
          try clear c10
          try clear c10b0
          try clear c10b1
          try clear hcz12_0
          try clear hcz12_1
          try clear hcz12_2
          try clear hcz12_3
          try clear hcz12_4
          try clear hcz12_5
          try clear hfz12_0
          try clear hfz12_1
          try clear hfz12_2
          try clear hfz12_3
          try clear hfz12_4
          try clear hfz12_5
          try clear hx428_0
          try clear hx428_1
          try clear hx428_2
          try clear hx428_3
          try clear hx428_4
          try clear hx428_5
          try clear p2
          try clear p428
          try clear q428
          obtain ⟨x8_2, x26_2, rfl, HA, HK2, HO_8, HO_24, BK429, HB⟩ := hrel
          cases gk with
          | zero => exact absurd HA.out (by simp [spec_QueryPairs.l1])
          | succ k2 =>
            have H := HA.out
            clear HA
            simp only [spec_QueryPairs.l1] at H
            by_cases c16 : x26_2 < (x5_1.length : Int)
            ·rw [if_pos c16] at H
             have c16b0 : decide (x26_2 < (x5_1.length : Int)) = true := decide_eq_true c16
             clear c16
             by_cases c17 : 0 ≤ x26_2
             ·rw [if_pos c17] at H
              have c17b0 : decide (0 ≤ x26_2) = true := decide_eq_true c17
              clear c17
              by_cases c18 : x26_2 < (x5_1.length : Int)
              ·rw [if_pos c18] at H
               have c18b0 : decide (x26_2 < (x5_1.length : Int)) = true := decide_eq_true c18
               clear c18
               by_cases c19 : ((rd_T65 x5_1 x26_2).f0).toList = ((rd_T48 l1 x16_1).f2).toList
               ·rw [if_pos c19] at H
                have c19b0 : (((rd_T65 x5_1 x26_2).f0).toList == ((rd_T48 l1 x16_1).f2).toList) = true := beq_iff_eq.mpr c19
                have c19b1 : (((rd_T65 x5_1 x26_2).f0).toList != ((rd_T48 l1 x16_1).f2).toList) = false := bne_eq_false_iff_eq.mpr c19
                clear c19
                have H' := Aside0.mk H
                clear H
                have p433 : 0 ≤ (x26_2 : Int) := of_decide_eq_true (by first | (with_reducible assumption) | assumption)
                have q433 : x26_2 < (x5_1.length : Int) := of_decide_eq_true (by first | (with_reducible assumption) | assumption)
                obtain ⟨ad433, e433, hx433_0, hx433_1, hx433_2⟩ := at_T65 (Kd.R_reads' HO_24.out).2.2 x26_2 p433 q433
                cases e433
                replace p433 := eq_true p433
                replace q433 := eq_true q433
                go_wp2_with (first | ((with_reducible refine gate_dst (N := 10) rfl ?_); refine box_event ?hg (N := 10) ?hd (cs := #[.string (⟨#[]⟩ : ByteArray), .string (⟨#[]⟩ : ByteArray), .bool false]) (t := 65) ?hr ?_; (case hd => rfl); (case hg => rfl); (case hr => first | (go_simp; done) | (go_simp; rfl)); intro gb434 hg w20 hbox hb; have n0_ := Aside0.mk (Kd.R_below (Kd.R_elderB (by (with_reducible repeat (first | apply Kd.R_alloc | apply Kd.R_drewN | apply Kd.R_drew)); exact HO_8.out) gb434 (Nat.le_of_eq hg.symm)) hb); have n1_ := Aside0.mk (Kd.R_below (Kd.R_elderB (by (with_reducible repeat (first | apply Kd.R_alloc | apply Kd.R_drewN | apply Kd.R_drew)); exact HO_24.out) gb434 (Nat.le_of_eq hg.symm)) hb); have n2_ := Aside0.mk (blk_below (g := gb429) (o := .cells #[.int .i64 ((rd_T48 l1 x16_1).f0), .string ((rd_T48 l1 x16_1).f1), .string ((rd_T48 l1 x16_1).f2), .int .i64 ((rd_T48 l1 x16_1).f3), .string ((rd_T48 l1 x16_1).f4), .int .i64 ((rd_T48 l1 x16_1).f5)] 48 (0, 0)) (by (with_reducible repeat (fail)); exact BK429.out) hb); have n3_ := Aside0.mk (below_step (by repeat ((with_reducible exact HB.out))) hb); have n4_ := Aside0.mk (hbox); have n5_ := Aside0.mk ((by rw [hg]; exact (below_size (by repeat ((with_reducible exact HB.out)))) : w.heap.size ≤ gb434)); have n6_ := Aside0.mk ((by rw [hg]; exact (below_size (by repeat ((with_reducible exact HB.out)))) : w.heap.size ≤ gb434)); have n7_ := Aside0.mk ((by rw [hg]; exact Nat.ne_of_lt (blk_lt (g := gb429) (o := .cells #[.int .i64 ((rd_T48 l1 x16_1).f0), .string ((rd_T48 l1 x16_1).f1), .string ((rd_T48 l1 x16_1).f2), .int .i64 ((rd_T48 l1 x16_1).f3), .string ((rd_T48 l1 x16_1).f4), .int .i64 ((rd_T48 l1 x16_1).f5)] 48 (0, 0)) (by (with_reducible repeat (fail)); exact BK429.out)) : gb429 ≠ gb434)); have n8_ := Aside0.mk ((by rw [hg]; exact Nat.ne_of_gt (blk_lt (g := gb429) (o := .cells #[.int .i64 ((rd_T48 l1 x16_1).f0), .string ((rd_T48 l1 x16_1).f1), .string ((rd_T48 l1 x16_1).f2), .int .i64 ((rd_T48 l1 x16_1).f3), .string ((rd_T48 l1 x16_1).f4), .int .i64 ((rd_T48 l1 x16_1).f5)] 48 (0, 0)) (by (with_reducible repeat (fail)); exact BK429.out)) : gb434 ≠ gb429)); clear HO_8; clear HO_24; clear BK429; clear HB; have HO_8 := n0_; have HO_24 := n1_; have BK429 := n2_; have HB := n3_; have BK434 := n4_; have GW434 := n5_; have GE434 := n6_; have NB429_434 := n7_; have NB434_429 := n8_; clear n0_ n1_ n2_ n3_ n4_ n5_ n6_ n7_ n8_; clear hb hbox hg; have hnb21 := NB434_429.out; have hnc21 := NB429_434.out; have hcz22_0 : w20.cell? ⟨gb434, 0, none⟩ = some (.string (⟨#[]⟩ : ByteArray)) := (blk_cell BK434.out 0).trans rfl; have hcz22_1 : w20.cell? ⟨gb434, 1, none⟩ = some (.string (⟨#[]⟩ : ByteArray)) := (blk_cell BK434.out 1).trans rfl; have hcz22_2 : w20.cell? ⟨gb434, 2, none⟩ = some (.bool false) := (blk_cell BK434.out 2).trans rfl; have hfz22_0 := blk_frozen BK434.out 0; have hfz22_1 := blk_frozen BK434.out 1; have hfz22_2 := blk_frozen BK434.out 2; have hcz23_0 : w20.cell? ⟨gb429, 0, none⟩ = some (.int .i64 ((rd_T48 l1 x16_1).f0)) := (blk_cell BK429.out 0).trans rfl; have hcz23_1 : w20.cell? ⟨gb429, 1, none⟩ = some (.string ((rd_T48 l1 x16_1).f1)) := (blk_cell BK429.out 1).trans rfl; have hcz23_2 : w20.cell? ⟨gb429, 2, none⟩ = some (.string ((rd_T48 l1 x16_1).f2)) := (blk_cell BK429.out 2).trans rfl; have hcz23_3 : w20.cell? ⟨gb429, 3, none⟩ = some (.int .i64 ((rd_T48 l1 x16_1).f3)) := (blk_cell BK429.out 3).trans rfl; have hcz23_4 : w20.cell? ⟨gb429, 4, none⟩ = some (.string ((rd_T48 l1 x16_1).f4)) := (blk_cell BK429.out 4).trans rfl; have hcz23_5 : w20.cell? ⟨gb429, 5, none⟩ = some (.int .i64 ((rd_T48 l1 x16_1).f5)) := (blk_cell BK429.out 5).trans rfl; have hfz23_0 := blk_frozen BK429.out 0; have hfz23_1 := blk_frozen BK429.out 1; have hfz23_2 := blk_frozen BK429.out 2; have hfz23_3 := blk_frozen BK429.out 3; have hfz23_4 := blk_frozen BK429.out 4; have hfz23_5 := blk_frozen BK429.out 5))
                go_roundg k2
                case measure => have := HK1.out; have := HK2.out; omega
                case rel => exact ⟨(x8_2), (wrap64 (x26_2 + 1)), (by first | rfl | (simp; done) | (simp [*]; done)), H', ⟨by have := HK1.out; have := HK2.out; omega⟩, ⟨by (with_reducible repeat (first | apply Kd.R_alloc | apply Kd.R_drewN | apply Kd.R_drew)); exact Kd.R_mono (Kd.R_far (p := ⟨gb434, 2, none⟩) (Kd.R_far (p := ⟨gb434, 1, none⟩) (Kd.R_far (p := ⟨gb434, 0, none⟩) (Kd.R_mono HO_8.out (fun k_ hk => (⟨hk, hk.2⟩ : _ ∧ k_ ≠ gb434))) (fun _ hk => hk.2) (.string ((rd_T65 x5_1 x26_2).f0))) (fun _ hk => hk.2) (.string ((rd_T65 x5_1 x26_2).f1))) (fun _ hk => hk.2) (.bool ((rd_T65 x5_1 x26_2).f2))) (fun _ hk => hk.1.1)⟩, ⟨by (with_reducible repeat (first | apply Kd.R_alloc | apply Kd.R_drewN | apply Kd.R_drew)); exact Kd.R_mono (Kd.R_far (p := ⟨gb434, 2, none⟩) (Kd.R_far (p := ⟨gb434, 1, none⟩) (Kd.R_far (p := ⟨gb434, 0, none⟩) (Kd.R_mono HO_24.out (fun k_ hk => (⟨hk, hk.2⟩ : _ ∧ k_ ≠ gb434))) (fun _ hk => hk.2) (.string ((rd_T65 x5_1 x26_2).f0))) (fun _ hk => hk.2) (.string ((rd_T65 x5_1 x26_2).f1))) (fun _ hk => hk.2) (.bool ((rd_T65 x5_1 x26_2).f2))) (fun _ hk => hk.1.1)⟩, ⟨by (with_reducible repeat (fail)); refine blk_far ?_ NB429_434.out _; (with_reducible repeat (fail)); refine blk_far ?_ NB429_434.out _; (with_reducible repeat (fail)); refine blk_far ?_ NB429_434.out _; (with_reducible repeat (fail)); exact BK429.out⟩, ⟨by repeat ((with_reducible first | exact HB.out | refine below_set ?_ GE434.out))⟩⟩
               ·rw [if_neg c19] at H
                have c19b0 : (((rd_T65 x5_1 x26_2).f0).toList == ((rd_T48 l1 x16_1).f2).toList) = false := beq_eq_false_iff_ne.mpr c19
                have c19b1 : (((rd_T65 x5_1 x26_2).f0).toList != ((rd_T48 l1 x16_1).f2).toList) = true := bne_iff_ne.mpr c19
                by_cases c24 : x8_2.length < 3518437208883
                ·rw [if_pos c24] at H
                 have LMc24 := Aside0.mk c24
                 clear c24
                 obtain ⟨y435, hy435⟩ : ∃ y_ : List (S65), y_ = (x8_2 ++ [(⟨(rd_T65 x5_1 x26_2).f0, (rd_T65 x5_1 x26_2).f1, (rd_T65 x5_1 x26_2).f2⟩ : S65)]) := ⟨_, rfl⟩
                 replace H : (spec_QueryPairs.l1 k2 y435 l1 (l1.length : Int) x16_1 x5_1 (x5_1.length : Int) (wrap64 (x26_2 + 1)) ((rd_T48 l1 x16_1).f0) ((rd_T48 l1 x16_1).f1) ((rd_T48 l1 x16_1).f2) ((rd_T48 l1 x16_1).f3) ((rd_T48 l1 x16_1).f4) ((rd_T48 l1 x16_1).f5)) = some r := by (rw [hy435]; with_reducible exact H)
                 have Ny435 := Aside0.mk hy435
                 clear hy435
                 have H' := Aside0.mk H
                 clear H
                 have p433 : 0 ≤ (x26_2 : Int) := of_decide_eq_true (by first | (with_reducible assumption) | assumption)
                 have q433 : x26_2 < (x5_1.length : Int) := of_decide_eq_true (by first | (with_reducible assumption) | assumption)
                 obtain ⟨ad433, e433, hx433_0, hx433_1, hx433_2⟩ := at_T65 (Kd.R_reads' HO_24.out).2.2 x26_2 p433 q433
                 cases e433
                 replace p433 := eq_true p433
                 replace q433 := eq_true q433
                 go_wp2_with (first | ((with_reducible refine gate_dst (N := 10) rfl ?_); refine box_event ?hg (N := 10) ?hd (cs := #[.string (⟨#[]⟩ : ByteArray), .string (⟨#[]⟩ : ByteArray), .bool false]) (t := 65) ?hr ?_; (case hd => rfl); (case hg => rfl); (case hr => first | (go_simp; done) | (go_simp; rfl)); intro gb434 hg w25 hbox hb; have n0_ := Aside0.mk (Kd.R_below (Kd.R_elderB (by (with_reducible repeat (first | apply Kd.R_alloc | apply Kd.R_drewN | apply Kd.R_drew)); exact HO_8.out) gb434 (Nat.le_of_eq hg.symm)) hb); have n1_ := Aside0.mk (Kd.R_below (Kd.R_elderB (by (with_reducible repeat (first | apply Kd.R_alloc | apply Kd.R_drewN | apply Kd.R_drew)); exact HO_24.out) gb434 (Nat.le_of_eq hg.symm)) hb); have n2_ := Aside0.mk (blk_below (g := gb429) (o := .cells #[.int .i64 ((rd_T48 l1 x16_1).f0), .string ((rd_T48 l1 x16_1).f1), .string ((rd_T48 l1 x16_1).f2), .int .i64 ((rd_T48 l1 x16_1).f3), .string ((rd_T48 l1 x16_1).f4), .int .i64 ((rd_T48 l1 x16_1).f5)] 48 (0, 0)) (by (with_reducible repeat (fail)); exact BK429.out) hb); have n3_ := Aside0.mk (below_step (by repeat ((with_reducible exact HB.out))) hb); have n4_ := Aside0.mk (hbox); have n5_ := Aside0.mk ((by rw [hg]; exact (below_size (by repeat ((with_reducible exact HB.out)))) : w.heap.size ≤ gb434)); have n6_ := Aside0.mk ((by rw [hg]; exact (below_size (by repeat ((with_reducible exact HB.out)))) : w.heap.size ≤ gb434)); have n7_ := Aside0.mk ((by rw [hg]; exact Nat.ne_of_lt (blk_lt (g := gb429) (o := .cells #[.int .i64 ((rd_T48 l1 x16_1).f0), .string ((rd_T48 l1 x16_1).f1), .string ((rd_T48 l1 x16_1).f2), .int .i64 ((rd_T48 l1 x16_1).f3), .string ((rd_T48 l1 x16_1).f4), .int .i64 ((rd_T48 l1 x16_1).f5)] 48 (0, 0)) (by (with_reducible repeat (fail)); exact BK429.out)) : gb429 ≠ gb434)); have n8_ := Aside0.mk ((by rw [hg]; exact Nat.ne_of_gt (blk_lt (g := gb429) (o := .cells #[.int .i64 ((rd_T48 l1 x16_1).f0), .string ((rd_T48 l1 x16_1).f1), .string ((rd_T48 l1 x16_1).f2), .int .i64 ((rd_T48 l1 x16_1).f3), .string ((rd_T48 l1 x16_1).f4), .int .i64 ((rd_T48 l1 x16_1).f5)] 48 (0, 0)) (by (with_reducible repeat (fail)); exact BK429.out)) : gb434 ≠ gb429)); clear HO_8; clear HO_24; clear BK429; clear HB; have HO_8 := n0_; have HO_24 := n1_; have BK429 := n2_; have HB := n3_; have BK434 := n4_; have GW434 := n5_; have GE434 := n6_; have NB429_434 := n7_; have NB434_429 := n8_; clear n0_ n1_ n2_ n3_ n4_ n5_ n6_ n7_ n8_; clear hb hbox hg; have hnb26 := NB434_429.out; have hnc26 := NB429_434.out; have hcz27_0 : w25.cell? ⟨gb434, 0, none⟩ = some (.string (⟨#[]⟩ : ByteArray)) := (blk_cell BK434.out 0).trans rfl; have hcz27_1 : w25.cell? ⟨gb434, 1, none⟩ = some (.string (⟨#[]⟩ : ByteArray)) := (blk_cell BK434.out 1).trans rfl; have hcz27_2 : w25.cell? ⟨gb434, 2, none⟩ = some (.bool false) := (blk_cell BK434.out 2).trans rfl; have hfz27_0 := blk_frozen BK434.out 0; have hfz27_1 := blk_frozen BK434.out 1; have hfz27_2 := blk_frozen BK434.out 2; have hcz28_0 : w25.cell? ⟨gb429, 0, none⟩ = some (.int .i64 ((rd_T48 l1 x16_1).f0)) := (blk_cell BK429.out 0).trans rfl; have hcz28_1 : w25.cell? ⟨gb429, 1, none⟩ = some (.string ((rd_T48 l1 x16_1).f1)) := (blk_cell BK429.out 1).trans rfl; have hcz28_2 : w25.cell? ⟨gb429, 2, none⟩ = some (.string ((rd_T48 l1 x16_1).f2)) := (blk_cell BK429.out 2).trans rfl; have hcz28_3 : w25.cell? ⟨gb429, 3, none⟩ = some (.int .i64 ((rd_T48 l1 x16_1).f3)) := (blk_cell BK429.out 3).trans rfl; have hcz28_4 : w25.cell? ⟨gb429, 4, none⟩ = some (.string ((rd_T48 l1 x16_1).f4)) := (blk_cell BK429.out 4).trans rfl; have hcz28_5 : w25.cell? ⟨gb429, 5, none⟩ = some (.int .i64 ((rd_T48 l1 x16_1).f5)) := (blk_cell BK429.out 5).trans rfl; have hfz28_0 := blk_frozen BK429.out 0; have hfz28_1 := blk_frozen BK429.out 1; have hfz28_2 := blk_frozen BK429.out 2; have hfz28_3 := blk_frozen BK429.out 3; have hfz28_4 := blk_frozen BK429.out 4; have hfz28_5 := blk_frozen BK429.out 5) | ((with_reducible refine gate_builtin (b := .append) (xs := #[.tmp 35, .tmp 37]) rfl ?_); at_builtin; refine Kd.R_append k65 (w0 := w) w.heap.size rfl (.tmp 35) (.tmp 37) 23 65 (.agg #[(.string ⟨#[]⟩), (.string ⟨#[]⟩), (.bool false)]) 40 rfl Tryz.underlying23 info65 rfl (by decide) (by omega) u8 x8_2 (⟨(rd_T65 x5_1 x26_2).f0, (rd_T65 x5_1 x26_2).f1, (rd_T65 x5_1 x26_2).f2⟩ : S65) [.string ((rd_T65 x5_1 x26_2).f0), .string ((rd_T65 x5_1 x26_2).f1), .bool ((rd_T65 x5_1 x26_2).f2)] (fun k_ => some k_ ≠ (.slice (some ad433) x5_1.length co15 : Value).ownBlock ∧ k_ ≠ gb434) (fun _ => False) rfl (by first | (go_simp; done) | (go_simp; rfl)) ?aP (fun _ hk => hk.elim) ?aF ?aO ?aB ?aS ?aL ?_; (case aP => exact k65_mkM _ _ _ (⟨(rd_T65 x5_1 x26_2).f0, (rd_T65 x5_1 x26_2).f1, (rd_T65 x5_1 x26_2).f2⟩ : S65)); (case aB => exact (by repeat ((with_reducible first | exact HB.out | refine below_set ?_ GE434.out)))); (case aF => exact (fun k_ hk => ⟨Kd.fresh' (Kd.R_lt (by (with_reducible repeat (first | apply Kd.R_alloc | apply Kd.R_drewN | apply Kd.R_drew)); exact (Kd.R_mono (Kd.R_far (p := ⟨gb434, 2, none⟩) (Kd.R_far (p := ⟨gb434, 1, none⟩) (Kd.R_far (p := ⟨gb434, 0, none⟩) (Kd.R_mono HO_24.out (fun k_ hk => (⟨hk, hk.2⟩ : _ ∧ k_ ≠ gb434))) (fun _ hk => hk.2) (.string ((rd_T65 x5_1 x26_2).f0))) (fun _ hk => hk.2) (.string ((rd_T65 x5_1 x26_2).f1))) (fun _ hk => hk.2) (.bool ((rd_T65 x5_1 x26_2).f2))) (fun _ h_ => h_.1)))) k_ hk, Kd.freshB (g := gb434) (o := .cells #[.string ((rd_T65 x5_1 x26_2).f0), .string ((rd_T65 x5_1 x26_2).f1), .bool ((rd_T65 x5_1 x26_2).f2)] 65 (0, 0)) (by (with_reducible repeat (fail)); refine blk_put (cs := #[.string ((rd_T65 x5_1 x26_2).f0), .string ((rd_T65 x5_1 x26_2).f1), .bool false]) ?_ 2 _ rfl; (with_reducible repeat (fail)); refine blk_put (cs := #[.string ((rd_T65 x5_1 x26_2).f0), .string (⟨#[]⟩ : ByteArray), .bool false]) ?_ 1 _ rfl; (with_reducible repeat (fail)); refine blk_put (cs := #[.string (⟨#[]⟩ : ByteArray), .string (⟨#[]⟩ : ByteArray), .bool false]) ?_ 0 _ rfl; (with_reducible repeat (fail)); exact BK434.out) k_ hk⟩)); (case aO => exact (by (with_reducible repeat (first | apply Kd.R_alloc | apply Kd.R_drewN | apply Kd.R_drew)); exact Kd.R_mono (Kd.R_far (p := ⟨gb434, 2, none⟩) (Kd.R_far (p := ⟨gb434, 1, none⟩) (Kd.R_far (p := ⟨gb434, 0, none⟩) (Kd.R_mono HO_8.out (fun k_ hk => (⟨hk, hk.2⟩ : _ ∧ k_ ≠ gb434))) (fun _ hk => hk.2) (.string ((rd_T65 x5_1 x26_2).f0))) (fun _ hk => hk.2) (.string ((rd_T65 x5_1 x26_2).f1))) (fun _ hk => hk.2) (.bool ((rd_T65 x5_1 x26_2).f2))) (fun _ hk => ⟨hk.1.1, hk.1.2⟩))); (case aS => exact (below_size (by repeat ((with_reducible first | exact HB.out | refine below_set ?_ GE434.out))))); (case aL => have := LMc24.out; omega); intro v436 w29 ho hb hg hat; rw [← Ny435.out] at ho; have n0_ := Aside0.mk (Kd.R_after (ok := (fun k_ => k_ ≠ gb434)) (by (with_reducible repeat (first | apply Kd.R_alloc | apply Kd.R_drewN | apply Kd.R_drew)); exact Kd.R_mono (Kd.R_far (p := ⟨gb434, 2, none⟩) (Kd.R_far (p := ⟨gb434, 1, none⟩) (Kd.R_far (p := ⟨gb434, 0, none⟩) (Kd.R_mono HO_24.out (fun k_ hk => (⟨hk, hk.2⟩ : _ ∧ k_ ≠ gb434))) (fun _ hk => hk.2) (.string ((rd_T65 x5_1 x26_2).f0))) (fun _ hk => hk.2) (.string ((rd_T65 x5_1 x26_2).f1))) (fun _ hk => hk.2) (.bool ((rd_T65 x5_1 x26_2).f2))) (fun _ hk => ⟨hk.1.2, hk.1.1⟩)) hg hat); have n1_ := Aside0.mk (blk_grown (g := gb429) (o := .cells #[.int .i64 ((rd_T48 l1 x16_1).f0), .string ((rd_T48 l1 x16_1).f1), .string ((rd_T48 l1 x16_1).f2), .int .i64 ((rd_T48 l1 x16_1).f3), .string ((rd_T48 l1 x16_1).f4), .int .i64 ((rd_T48 l1 x16_1).f5)] 48 (0, 0)) (by (with_reducible repeat (fail)); refine blk_far ?_ NB429_434.out _; (with_reducible repeat (fail)); refine blk_far ?_ NB429_434.out _; (with_reducible repeat (fail)); refine blk_far ?_ NB429_434.out _; (with_reducible repeat (fail)); exact BK429.out) hg (Kd.R_ne HO_8.out BK429.out (by decide))); have n2_ := Aside0.mk (blk_grown (g := gb434) (o := .cells #[.string ((rd_T65 x5_1 x26_2).f0), .string ((rd_T65 x5_1 x26_2).f1), .bool ((rd_T65 x5_1 x26_2).f2)] 65 (0, 0)) (by (with_reducible repeat (fail)); refine blk_put (cs := #[.string ((rd_T65 x5_1 x26_2).f0), .string ((rd_T65 x5_1 x26_2).f1), .bool false]) ?_ 2 _ rfl; (with_reducible repeat (fail)); refine blk_put (cs := #[.string ((rd_T65 x5_1 x26_2).f0), .string (⟨#[]⟩ : ByteArray), .bool false]) ?_ 1 _ rfl; (with_reducible repeat (fail)); refine blk_put (cs := #[.string (⟨#[]⟩ : ByteArray), .string (⟨#[]⟩ : ByteArray), .bool false]) ?_ 0 _ rfl; (with_reducible repeat (fail)); exact BK434.out) hg (Kd.R_away HO_8.out (fun _ hk => hk.2))); have n3_ := Aside0.mk (hb); have n4_ := Aside0.mk (ho); clear HO_24; clear BK429; clear BK434; clear HB; clear HO_8; have HO_24 := n0_; have BK429 := n1_; have BK434 := n2_; have HB := n3_; have HO437 := n4_; clear n0_ n1_ n2_ n3_ n4_; clear ho hb hg hat))
                 go_roundg k2
                 case measure => have := HK1.out; have := HK2.out; omega
                 case rel => exact ⟨(y435), (wrap64 (x26_2 + 1)), (by first | rfl | (simp; done) | (simp [*]; done)), H', ⟨by have := HK1.out; have := HK2.out; omega⟩, ⟨by (with_reducible repeat (first | apply Kd.R_alloc | apply Kd.R_drewN | apply Kd.R_drew)); exact Kd.R_mono HO437.out (fun _ hk => hk.1)⟩, ⟨by (with_reducible repeat (first | apply Kd.R_alloc | apply Kd.R_drewN | apply Kd.R_drew)); exact Kd.R_mono HO_24.out (fun _ hk => hk.2)⟩, ⟨by (with_reducible repeat (fail)); exact BK429.out⟩, ⟨by repeat ((with_reducible exact HB.out))⟩⟩
                ·rw [if_neg c24] at H
                 exact absurd H (by simp)
              ·rw [if_neg c18] at H
               exact absurd H (by simp)
             ·rw [if_neg c17] at H
              exact absurd H (by simp)
            ·rw [if_neg c16] at H
             have c16b0 : decide (x26_2 < (x5_1.length : Int)) = false := decide_eq_false c16
             clear c16
             replace H := Option.bind_eq_some_iff.mp H
             obtain ⟨t438, A300, H⟩ := H
             replace H : (if x8_2.length < 3518437208883 then (spec_QueryPairs.l0 k2 (x8_2 ++ [(⟨((rd_T48 l1 x16_1).f2), t438, false⟩ : S65)]) l1 (l1.length : Int) (wrap64 (x16_1 + 1))) else (none)) = some r := H
             have A30 := Aside0.mk A300
             clear A300
             by_cases c31 : x8_2.length < 3518437208883
             ·rw [if_pos c31] at H
              have LMc31 := Aside0.mk c31
              clear c31
              obtain ⟨y439, hy439⟩ : ∃ y_ : List (S65), y_ = (x8_2 ++ [(⟨((rd_T48 l1 x16_1).f2), t438, false⟩ : S65)]) := ⟨_, rfl⟩
              replace H : (spec_QueryPairs.l0 k2 y439 l1 (l1.length : Int) (wrap64 (x16_1 + 1))) = some r := by (rw [hy439]; with_reducible exact H)
              have Ny439 := Aside0.mk hy439
              clear hy439
              have H' := Aside0.mk H
              clear H
              try go_wp2
              have n0_ := Aside0.mk (Kd.R_drew HO_8.out)
              have n1_ := Aside0.mk (Kd.R_drew HO_24.out)
              have n2_ := Aside0.mk (blk_drew BK429.out)
              have n3_ := Aside0.mk (below_drew1 HB.out)
              clear HO_8
              clear HO_24
              clear BK429
              clear HB
              have HO_8 := n0_
              have HO_24 := n1_
              have BK429 := n2_
              have HB := n3_
              clear n0_ n1_ n2_ n3_
              refine start_ (n := 14) (S := fun w' => w'.cell? ⟨gb429, 0, none⟩ = some (.int .i64 ((rd_T48 l1 x16_1).f0)) ∧ w'.cell? ⟨gb429, 1, none⟩ = some (.string ((rd_T48 l1 x16_1).f1)) ∧ w'.cell? ⟨gb429, 2, none⟩ = some (.string ((rd_T48 l1 x16_1).f2)) ∧ w'.cell? ⟨gb429, 3, none⟩ = some (.int .i64 ((rd_T48 l1 x16_1).f3)) ∧ w'.cell? ⟨gb429, 4, none⟩ = some (.string ((rd_T48 l1 x16_1).f4)) ∧ w'.cell? ⟨gb429, 5, none⟩ = some (.int .i64 ((rd_T48 l1 x16_1).f5))) (ds := []) #[false, false, false, false, false, false, false, false, false, false, false, false, false, false] (by kernel_rfl) rfl rfl ⟨(blk_cell BK429.out 0).trans rfl, (blk_cell BK429.out 1).trans rfl, (blk_cell BK429.out 2).trans rfl, (blk_cell BK429.out 3).trans rfl, (blk_cell BK429.out 4).trans rfl, (blk_cell BK429.out 5).trans rfl⟩ (fun hHeld => ?_); refine with_tabW spec_QueryPairs.tab14 spec_QueryPairs.bits14 (fun HT_ HW_ => ?_)
              generalize wr.drew = w32 at HO_8 HO_24 BK429 HB hHeld ⊢
              refine puk 0 41 ?_
              refine puk 1 42 ?_
              refine puk 3 44 ?_
              refine puk 5 46 ?_
              refine puk 7 48 ?_
              refine take_ (i := 2) (N := some 43) (v := ?_) (a' := ?_) #[true, true, true, true, false, true, false, true, false, false, false, false, false, false] rfl rfl (take_ofW HT_.out HW_.out (by kernel_rfl)) (fun _ _ _ h => h) (Or.inl ⟨by rfl, ?_⟩) hHeld ?_ ?_
              rotate_left
              ·rintro w' ⟨s0, s1, s2, s3, s4, s5⟩
               go_simp
               with_reducible rfl
              rotate_left
              ·simp only [Act.put, List.setIfInBounds_toArray, List.set_cons_zero, List.set_cons_succ, i64_w, i32_w]
               rfl
              refine take_ (i := 4) (N := some 45) (v := ?_) (a' := ?_) #[true, true, true, true, true, true, false, true, false, false, false, false, false, false] rfl rfl (take_ofW HT_.out HW_.out (by kernel_rfl)) (fun _ _ _ h => h) (Or.inl ⟨by rfl, ?_⟩) hHeld ?_ ?_
              rotate_left
              ·rintro w' ⟨s0, s1, s2, s3, s4, s5⟩
               go_simp
               with_reducible rfl
              rotate_left
              ·simp only [Act.put, List.setIfInBounds_toArray, List.set_cons_zero, List.set_cons_succ, i64_w, i32_w]
               rfl
              refine take_ (i := 6) (N := some 47) (v := ?_) (a' := ?_) #[true, true, true, true, true, true, true, true, false, false, false, false, false, false] rfl rfl (take_ofW HT_.out HW_.out (by kernel_rfl)) (fun _ _ _ h => h) (Or.inl ⟨by rfl, ?_⟩) hHeld ?_ ?_
              rotate_left
              ·rintro w' ⟨s0, s1, s2, s3, s4, s5⟩
               go_simp
               with_reducible rfl
              rotate_left
              ·simp only [Act.put, List.setIfInBounds_toArray, List.set_cons_zero, List.set_cons_succ, i64_w, i32_w]
               rfl
              refine take_ (i := 8) (N := some 49) (v := ?_) (a' := ?_) #[true, true, true, true, true, true, true, true, true, false, false, false, false, false] rfl rfl (take_ofW HT_.out HW_.out (by kernel_rfl)) (fun _ _ _ h => h) (Or.inl ⟨by rfl, ?_⟩) hHeld ?_ ?_
              rotate_left
              ·rintro w' ⟨s0, s1, s2, s3, s4, s5⟩
               go_simp
               with_reducible rfl
              rotate_left
              ·simp only [Act.put, List.setIfInBounds_toArray, List.set_cons_zero, List.set_cons_succ, i64_w, i32_w]
               rfl
              refine onk 9 50 (fun K hK => ?_)
              refine goes_ Tryz.func42 (by kernel_rfl) rfl #[.int .i64 ((rd_T48 l1 x16_1).f3), .string ((rd_T48 l1 x16_1).f4), .int .i64 ((rd_T48 l1 x16_1).f5)] (by rfl) rfl rfl (by (try simp only [List.map_toArray, List.map_cons, List.map_nil]); rfl) ?_
              with_reducible refine (spec_Text.calls k2 ((rd_T48 l1 x16_1).f3) ((rd_T48 l1 x16_1).f4) ((rd_T48 l1 x16_1).f5) t438 _ A30.out).mono ?_
              rintro e w33 ⟨rfl, hb⟩
              refine ⟨_, rfl, ?_⟩
              have n0_ := Aside0.mk (Kd.R_below (by (with_reducible repeat (first | apply Kd.R_alloc | apply Kd.R_drewN | apply Kd.R_drew)); exact HO_8.out) hb)
              have n1_ := Aside0.mk (Kd.R_below (by (with_reducible repeat (first | apply Kd.R_alloc | apply Kd.R_drewN | apply Kd.R_drew)); exact HO_24.out) hb)
              have n2_ := Aside0.mk (blk_below (g := gb429) (o := .cells #[.int .i64 ((rd_T48 l1 x16_1).f0), .string ((rd_T48 l1 x16_1).f1), .string ((rd_T48 l1 x16_1).f2), .int .i64 ((rd_T48 l1 x16_1).f3), .string ((rd_T48 l1 x16_1).f4), .int .i64 ((rd_T48 l1 x16_1).f5)] 48 (0, 0)) (by (with_reducible repeat (fail)); exact BK429.out) hb)
              have n3_ := Aside0.mk (below_step (by repeat ((with_reducible exact HB.out))) hb)
              clear HO_8
              clear HO_24
              clear BK429
              clear HB
              have HO_8 := n0_
              have HO_24 := n1_
              have BK429 := n2_
              have HB := n3_
              clear n0_ n1_ n2_ n3_
              (try clear hb)
              (try clear hb2)
              (try clear hk)
              (try clear hi)
              refine hK.out _ _ ⟨(blk_cell BK429.out 0).trans rfl, (blk_cell BK429.out 1).trans rfl, (blk_cell BK429.out 2).trans rfl, (blk_cell BK429.out 3).trans rfl, (blk_cell BK429.out 4).trans rfl, (blk_cell BK429.out 5).trans rfl⟩ (fun hHeld => ?_)
              clear hK K
              refine nok 50 ?_
              refine puk 10 51 ?_
              refine onk 11 52 (fun K hK => ?_)
              refine value_ (w1 := ?_) (v := ?_) (by rfl) rfl ?_ ?_
              rotate_left 2
              ·go_simp
               constructor
               ·rfl
               ·rfl
              refine hK.out _ _ ⟨(blk_cell (blk_alloc BK429.out _) 0).trans rfl, (blk_cell (blk_alloc BK429.out _) 1).trans rfl, (blk_cell (blk_alloc BK429.out _) 2).trans rfl, (blk_cell (blk_alloc BK429.out _) 3).trans rfl, (blk_cell (blk_alloc BK429.out _) 4).trans rfl, (blk_cell (blk_alloc BK429.out _) 5).trans rfl⟩ (fun hHeld => ?_)
              clear hK K
              refine nok 52 ?_
              refine onk 12 53 (fun K hK => ?_)
              refine Kd.R_append_step k65 (w0 := w) w.heap.size (by rfl) (.tmp 41) (.tmp 52) 23 65 (.agg #[(.string ⟨#[]⟩), (.string ⟨#[]⟩), (.bool false)]) 40 rfl Tryz.underlying23 info65 rfl (by decide) (by omega) u8 x8_2 (⟨((rd_T48 l1 x16_1).f2), t438, false⟩ : S65) [.string ((rd_T48 l1 x16_1).f2), .string t438, .bool false] (fun k_ => some k_ ≠ (.slice Ao15 x5_1.length co15 : Value).ownBlock) (fun _ => False) rfl rfl ?aP (fun _ hk => hk.elim) ?aF ?aO ?aB ?aS ?aL ?_
              (case aP => exact k65_mkM _ _ _ (⟨((rd_T48 l1 x16_1).f2), t438, false⟩ : S65))
              (case aB => exact (by repeat ((with_reducible exact HB.out))))
              (case aF => exact (fun k_ hk => Kd.fresh' (Kd.R_lt (by (with_reducible repeat (first | apply Kd.R_alloc | apply Kd.R_drewN | apply Kd.R_drew)); exact HO_24.out)) k_ hk))
              (case aO => exact (by (with_reducible repeat (first | apply Kd.R_alloc | apply Kd.R_drewN | apply Kd.R_drew)); exact HO_8.out))
              (case aS => exact (below_size (by repeat ((with_reducible exact HB.out)))))
              (case aL => have := LMc31.out; omega)
              intro v440 w34 ho hb hg hat
              rw [← Ny439.out] at ho
              have n0_ := Aside0.mk (Kd.R_after (ok := (fun _ => True)) (by (with_reducible repeat (first | apply Kd.R_alloc | apply Kd.R_drewN | apply Kd.R_drew)); exact Kd.R_mono HO_24.out (fun _ hk => ⟨trivial, hk⟩)) hg hat)
              have n1_ := Aside0.mk (blk_grown (g := gb429) (o := .cells #[.int .i64 ((rd_T48 l1 x16_1).f0), .string ((rd_T48 l1 x16_1).f1), .string ((rd_T48 l1 x16_1).f2), .int .i64 ((rd_T48 l1 x16_1).f3), .string ((rd_T48 l1 x16_1).f4), .int .i64 ((rd_T48 l1 x16_1).f5)] 48 (0, 0)) (by (with_reducible repeat (fail)); exact BK429.out) hg (Kd.R_ne HO_8.out BK429.out (by decide)))
              have n2_ := Aside0.mk (hb)
              have n3_ := Aside0.mk (ho)
              clear HO_24
              clear BK429
              clear HB
              clear HO_8
              have HO_24 := n0_
              have BK429 := n1_
              have HB := n2_
              have HO441 := n3_
              clear n0_ n1_ n2_ n3_
              clear ho hb hg hat
              refine hK.out _ _ ⟨(blk_cell BK429.out 0).trans rfl, (blk_cell BK429.out 1).trans rfl, (blk_cell BK429.out 2).trans rfl, (blk_cell BK429.out 3).trans rfl, (blk_cell BK429.out 4).trans rfl, (blk_cell BK429.out 5).trans rfl⟩ (fun hHeld => ?_)
              clear hK K
              refine nok 53 ?_
              refine puk 13 5 ?_
              refine done_ (done_of HT_.out (by kernel_rfl)) ?_
              try go_wp2
              go_roundg k2
              case measure => have := HK1.out; have := HK2.out; omega
              case rel => exact ⟨(y439), (wrap64 (x16_1 + 1)), (by first | rfl | (simp; done) | (simp [*]; done)), H', ⟨by have := HK1.out; have := HK2.out; omega⟩, ⟨by (with_reducible repeat (first | apply Kd.R_alloc | apply Kd.R_drewN | apply Kd.R_drew)); exact Kd.R_mono HO441.out (fun _ hk => trivial)⟩, ⟨by repeat ((with_reducible exact HB.out))⟩⟩
             ·rw [if_neg c31] at H
              exact absurd H (by simp)
        ·rw [if_neg c10] at H
         have c10b0 : (((rd_T48 l1 x16_1).f0) == 1) = false := beq_eq_false_iff_ne.mpr c10
         have c10b1 : (((rd_T48 l1 x16_1).f0) != 1) = true := bne_iff_ne.mpr c10
         replace H := Option.bind_eq_some_iff.mp H
         obtain ⟨t442, A350, H⟩ := H
         replace H : (if x5_1.length < 3518437208883 then (spec_QueryPairs.l0 k1 (x5_1 ++ [(⟨(rd_T48 l1 x16_1).f2, t442, false⟩ : S65)]) l1 (l1.length : Int) (wrap64 (x16_1 + 1))) else (none)) = some r := H
         have A35 := Aside0.mk A350
         clear A350
         by_cases c36 : x5_1.length < 3518437208883
         ·rw [if_pos c36] at H
          have LMc36 := Aside0.mk c36
          clear c36
          obtain ⟨y443, hy443⟩ : ∃ y_ : List (S65), y_ = (x5_1 ++ [(⟨(rd_T48 l1 x16_1).f2, t442, false⟩ : S65)]) := ⟨_, rfl⟩
          replace H : (spec_QueryPairs.l0 k1 y443 l1 (l1.length : Int) (wrap64 (x16_1 + 1))) = some r := by (rw [hy443]; with_reducible exact H)
          have Ny443 := Aside0.mk hy443
          clear hy443
          have H' := Aside0.mk H
          clear H
          have p428 : 0 ≤ (x16_1 : Int) := of_decide_eq_true (by first | (with_reducible assumption) | assumption)
          have q428 : x16_1 < (l1.length : Int) := of_decide_eq_true (by first | (with_reducible assumption) | assumption)
          obtain ⟨ad428, e428, hx428_0, hx428_1, hx428_2, hx428_3, hx428_4, hx428_5⟩ := at_T48 HR1.out x16_1 p428 q428
          cases e428
          replace hx428_0 := (HB.out.cell (World.block_lt_of_cell? w _ hx428_0)).trans hx428_0
          replace hx428_1 := (HB.out.cell (World.block_lt_of_cell? w _ hx428_1)).trans hx428_1
          replace hx428_2 := (HB.out.cell (World.block_lt_of_cell? w _ hx428_2)).trans hx428_2
          replace hx428_3 := (HB.out.cell (World.block_lt_of_cell? w _ hx428_3)).trans hx428_3
          replace hx428_4 := (HB.out.cell (World.block_lt_of_cell? w _ hx428_4)).trans hx428_4
          replace hx428_5 := (HB.out.cell (World.block_lt_of_cell? w _ hx428_5)).trans hx428_5
          replace p428 := eq_true p428
          replace q428 := eq_true q428
          try go_wp2_with (first | ((with_reducible refine gate_dst (N := 7) rfl ?_); refine box_event ?hg (N := 7) ?hd (cs := #[.int .i64 0, .string (⟨#[]⟩ : ByteArray), .string (⟨#[]⟩ : ByteArray), .int .i64 0, .string (⟨#[]⟩ : ByteArray), .int .i64 0]) (t := 48) ?hr ?_; (case hd => rfl); (case hg => rfl); (case hr => first | (go_simp; done) | (go_simp; rfl)); intro gb429 hg w37 hbox hb; have n0_ := Aside0.mk (Kd.R_below (by (with_reducible repeat (first | apply Kd.R_alloc | apply Kd.R_drewN | apply Kd.R_drew)); exact HO_5.out) hb); have n1_ := Aside0.mk (below_step (by repeat ((with_reducible exact HB.out))) hb); have n2_ := Aside0.mk (hbox); have n3_ := Aside0.mk ((by rw [hg]; exact (below_size (by repeat ((with_reducible exact HB.out)))) : w.heap.size ≤ gb429)); have n4_ := Aside0.mk ((by rw [hg]; exact (below_size (by repeat ((with_reducible exact HB.out)))) : w.heap.size ≤ gb429)); clear HO_5; clear HB; have HO_5 := n0_; have HB := n1_; have BK429 := n2_; have GW429 := n3_; have GE429 := n4_; clear n0_ n1_ n2_ n3_ n4_; clear hb hbox hg; have hcz38_0 : w37.cell? ⟨gb429, 0, none⟩ = some (.int .i64 0) := (blk_cell BK429.out 0).trans rfl; have hcz38_1 : w37.cell? ⟨gb429, 1, none⟩ = some (.string (⟨#[]⟩ : ByteArray)) := (blk_cell BK429.out 1).trans rfl; have hcz38_2 : w37.cell? ⟨gb429, 2, none⟩ = some (.string (⟨#[]⟩ : ByteArray)) := (blk_cell BK429.out 2).trans rfl; have hcz38_3 : w37.cell? ⟨gb429, 3, none⟩ = some (.int .i64 0) := (blk_cell BK429.out 3).trans rfl; have hcz38_4 : w37.cell? ⟨gb429, 4, none⟩ = some (.string (⟨#[]⟩ : ByteArray)) := (blk_cell BK429.out 4).trans rfl; have hcz38_5 : w37.cell? ⟨gb429, 5, none⟩ = some (.int .i64 0) := (blk_cell BK429.out 5).trans rfl; have hfz38_0 := blk_frozen BK429.out 0; have hfz38_1 := blk_frozen BK429.out 1; have hfz38_2 := blk_frozen BK429.out 2; have hfz38_3 := blk_frozen BK429.out 3; have hfz38_4 := blk_frozen BK429.out 4; have hfz38_5 := blk_frozen BK429.out 5))
          have n0_ : Aside0 (Kd.R k65 65 ((((((w37.setCell ⟨gb429, 0, none⟩ (.int .i64 ((rd_T48 l1 x16_1).f0))).setCell ⟨gb429, 1, none⟩ (.string ((rd_T48 l1 x16_1).f1))).setCell ⟨gb429, 2, none⟩ (.string ((rd_T48 l1 x16_1).f2))).setCell ⟨gb429, 3, none⟩ (.int .i64 ((rd_T48 l1 x16_1).f3))).setCell ⟨gb429, 4, none⟩ (.string ((rd_T48 l1 x16_1).f4))).setCell ⟨gb429, 5, none⟩ (.int .i64 ((rd_T48 l1 x16_1).f5))) w.heap.size (fun _ => True) u5 x5_1) := ⟨by (with_reducible repeat (first | apply Kd.R_alloc | apply Kd.R_drewN | apply Kd.R_drew)); exact Kd.R_mono (Kd.R_far (p := ⟨gb429, 5, none⟩) (Kd.R_far (p := ⟨gb429, 4, none⟩) (Kd.R_far (p := ⟨gb429, 3, none⟩) (Kd.R_far (p := ⟨gb429, 2, none⟩) (Kd.R_far (p := ⟨gb429, 1, none⟩) (Kd.R_far (p := ⟨gb429, 0, none⟩) (Kd.R_types HO_5.out BK429.out (by decide)) (fun _ hk => hk.2) (.int .i64 ((rd_T48 l1 x16_1).f0))) (fun _ hk => hk.2) (.string ((rd_T48 l1 x16_1).f1))) (fun _ hk => hk.2) (.string ((rd_T48 l1 x16_1).f2))) (fun _ hk => hk.2) (.int .i64 ((rd_T48 l1 x16_1).f3))) (fun _ hk => hk.2) (.string ((rd_T48 l1 x16_1).f4))) (fun _ hk => hk.2) (.int .i64 ((rd_T48 l1 x16_1).f5))) (fun _ hk => trivial)⟩
          have n1_ : Aside0 (((((((w37.setCell ⟨gb429, 0, none⟩ (.int .i64 ((rd_T48 l1 x16_1).f0))).setCell ⟨gb429, 1, none⟩ (.string ((rd_T48 l1 x16_1).f1))).setCell ⟨gb429, 2, none⟩ (.string ((rd_T48 l1 x16_1).f2))).setCell ⟨gb429, 3, none⟩ (.int .i64 ((rd_T48 l1 x16_1).f3))).setCell ⟨gb429, 4, none⟩ (.string ((rd_T48 l1 x16_1).f4))).setCell ⟨gb429, 5, none⟩ (.int .i64 ((rd_T48 l1 x16_1).f5))).heap[gb429]? = some (.cells #[.int .i64 ((rd_T48 l1 x16_1).f0), .string ((rd_T48 l1 x16_1).f1), .string ((rd_T48 l1 x16_1).f2), .int .i64 ((rd_T48 l1 x16_1).f3), .string ((rd_T48 l1 x16_1).f4), .int .i64 ((rd_T48 l1 x16_1).f5)] 48 (0, 0))) := ⟨by (with_reducible repeat (fail)); refine blk_put (cs := #[.int .i64 ((rd_T48 l1 x16_1).f0), .string ((rd_T48 l1 x16_1).f1), .string ((rd_T48 l1 x16_1).f2), .int .i64 ((rd_T48 l1 x16_1).f3), .string ((rd_T48 l1 x16_1).f4), .int .i64 0]) ?_ 5 _ rfl; (with_reducible repeat (fail)); refine blk_put (cs := #[.int .i64 ((rd_T48 l1 x16_1).f0), .string ((rd_T48 l1 x16_1).f1), .string ((rd_T48 l1 x16_1).f2), .int .i64 ((rd_T48 l1 x16_1).f3), .string (⟨#[]⟩ : ByteArray), .int .i64 0]) ?_ 4 _ rfl; (with_reducible repeat (fail)); refine blk_put (cs := #[.int .i64 ((rd_T48 l1 x16_1).f0), .string ((rd_T48 l1 x16_1).f1), .string ((rd_T48 l1 x16_1).f2), .int .i64 0, .string (⟨#[]⟩ : ByteArray), .int .i64 0]) ?_ 3 _ rfl; (with_reducible repeat (fail)); refine blk_put (cs := #[.int .i64 ((rd_T48 l1 x16_1).f0), .string ((rd_T48 l1 x16_1).f1), .string (⟨#[]⟩ : ByteArray), .int .i64 0, .string (⟨#[]⟩ : ByteArray), .int .i64 0]) ?_ 2 _ rfl; (with_reducible repeat (fail)); refine blk_put (cs := #[.int .i64 ((rd_T48 l1 x16_1).f0), .string (⟨#[]⟩ : ByteArray), .string (⟨#[]⟩ : ByteArray), .int .i64 0, .string (⟨#[]⟩ : ByteArray), .int .i64 0]) ?_ 1 _ rfl; (with_reducible repeat (fail)); refine blk_put (cs := #[.int .i64 0, .string (⟨#[]⟩ : ByteArray), .string (⟨#[]⟩ : ByteArray), .int .i64 0, .string (⟨#[]⟩ : ByteArray), .int .i64 0]) ?_ 0 _ rfl; (with_reducible repeat (fail)); exact BK429.out⟩
          have n2_ : Aside0 (Below w.heap.size w ((((((w37.setCell ⟨gb429, 0, none⟩ (.int .i64 ((rd_T48 l1 x16_1).f0))).setCell ⟨gb429, 1, none⟩ (.string ((rd_T48 l1 x16_1).f1))).setCell ⟨gb429, 2, none⟩ (.string ((rd_T48 l1 x16_1).f2))).setCell ⟨gb429, 3, none⟩ (.int .i64 ((rd_T48 l1 x16_1).f3))).setCell ⟨gb429, 4, none⟩ (.string ((rd_T48 l1 x16_1).f4))).setCell ⟨gb429, 5, none⟩ (.int .i64 ((rd_T48 l1 x16_1).f5)))) := ⟨by repeat ((with_reducible first | exact HB.out | refine below_set ?_ GE429.out))⟩
          (try clear HO_5)
          (try clear BK429)
          (try clear HB)
          generalize ((((((w37.setCell ⟨gb429, 0, none⟩ (.int .i64 ((rd_T48 l1 x16_1).f0))).setCell ⟨gb429, 1, none⟩ (.string ((rd_T48 l1 x16_1).f1))).setCell ⟨gb429, 2, none⟩ (.string ((rd_T48 l1 x16_1).f2))).setCell ⟨gb429, 3, none⟩ (.int .i64 ((rd_T48 l1 x16_1).f3))).setCell ⟨gb429, 4, none⟩ (.string ((rd_T48 l1 x16_1).f4))).setCell ⟨gb429, 5, none⟩ (.int .i64 ((rd_T48 l1 x16_1).f5))) = w39 at n0_ n1_ n2_ ⊢
          have HO_5 := n0_
          have BK429 := n1_
          have HB := n2_
          clear n0_ n1_ n2_
          have n0_ := Aside0.mk (Kd.R_drew HO_5.out)
          have n1_ := Aside0.mk (blk_drew BK429.out)
          have n2_ := Aside0.mk (below_drew1 HB.out)
          clear HO_5
          clear BK429
          clear HB
          have HO_5 := n0_
          have BK429 := n1_
          have HB := n2_
          clear n0_ n1_ n2_
          refine start_ (n := 14) (S := fun w' => w'.cell? ⟨gb429, 0, none⟩ = some (.int .i64 ((rd_T48 l1 x16_1).f0)) ∧ w'.cell? ⟨gb429, 1, none⟩ = some (.string ((rd_T48 l1 x16_1).f1)) ∧ w'.cell? ⟨gb429, 2, none⟩ = some (.string ((rd_T48 l1 x16_1).f2)) ∧ w'.cell? ⟨gb429, 3, none⟩ = some (.int .i64 ((rd_T48 l1 x16_1).f3)) ∧ w'.cell? ⟨gb429, 4, none⟩ = some (.string ((rd_T48 l1 x16_1).f4)) ∧ w'.cell? ⟨gb429, 5, none⟩ = some (.int .i64 ((rd_T48 l1 x16_1).f5))) (ds := []) #[false, false, false, false, false, false, false, false, false, false, false, false, false, false] (by kernel_rfl) rfl rfl ⟨(blk_cell BK429.out 0).trans rfl, (blk_cell BK429.out 1).trans rfl, (blk_cell BK429.out 2).trans rfl, (blk_cell BK429.out 3).trans rfl, (blk_cell BK429.out 4).trans rfl, (blk_cell BK429.out 5).trans rfl⟩ (fun hHeld => ?_); refine with_tabW spec_QueryPairs.tab14 spec_QueryPairs.bits14 (fun HT_ HW_ => ?_)
          generalize w39.drew = w40 at HO_5 BK429 HB hHeld ⊢
          refine puk 0 41 ?_
          refine puk 1 42 ?_
          refine puk 3 44 ?_
          refine puk 5 46 ?_
          refine puk 7 48 ?_
          refine take_ (i := 2) (N := some 43) (v := ?_) (a' := ?_) #[true, true, true, true, false, true, false, true, false, false, false, false, false, false] rfl rfl (take_ofW HT_.out HW_.out (by kernel_rfl)) (fun _ _ _ h => h) (Or.inl ⟨by rfl, ?_⟩) hHeld ?_ ?_
          rotate_left
          ·rintro w' ⟨s0, s1, s2, s3, s4, s5⟩
           go_simp
           with_reducible rfl
          rotate_left
          ·simp only [Act.put, List.setIfInBounds_toArray, List.set_cons_zero, List.set_cons_succ, i64_w, i32_w]
           rfl
          refine take_ (i := 4) (N := some 45) (v := ?_) (a' := ?_) #[true, true, true, true, true, true, false, true, false, false, false, false, false, false] rfl rfl (take_ofW HT_.out HW_.out (by kernel_rfl)) (fun _ _ _ h => h) (Or.inl ⟨by rfl, ?_⟩) hHeld ?_ ?_
          rotate_left
          ·rintro w' ⟨s0, s1, s2, s3, s4, s5⟩
           go_simp
           with_reducible rfl
          rotate_left
          ·simp only [Act.put, List.setIfInBounds_toArray, List.set_cons_zero, List.set_cons_succ, i64_w, i32_w]
           rfl
          refine take_ (i := 6) (N := some 47) (v := ?_) (a' := ?_) #[true, true, true, true, true, true, true, true, false, false, false, false, false, false] rfl rfl (take_ofW HT_.out HW_.out (by kernel_rfl)) (fun _ _ _ h => h) (Or.inl ⟨by rfl, ?_⟩) hHeld ?_ ?_
          rotate_left
          ·rintro w' ⟨s0, s1, s2, s3, s4, s5⟩
           go_simp
           with_reducible rfl
          rotate_left
          ·simp only [Act.put, List.setIfInBounds_toArray, List.set_cons_zero, List.set_cons_succ, i64_w, i32_w]
           rfl
          refine take_ (i := 8) (N := some 49) (v := ?_) (a' := ?_) #[true, true, true, true, true, true, true, true, true, false, false, false, false, false] rfl rfl (take_ofW HT_.out HW_.out (by kernel_rfl)) (fun _ _ _ h => h) (Or.inl ⟨by rfl, ?_⟩) hHeld ?_ ?_
          rotate_left
          ·rintro w' ⟨s0, s1, s2, s3, s4, s5⟩
           go_simp
           with_reducible rfl
          rotate_left
          ·simp only [Act.put, List.setIfInBounds_toArray, List.set_cons_zero, List.set_cons_succ, i64_w, i32_w]
           rfl
          refine onk 9 50 (fun K hK => ?_)
          refine goes_ Tryz.func42 (by kernel_rfl) rfl #[.int .i64 ((rd_T48 l1 x16_1).f3), .string ((rd_T48 l1 x16_1).f4), .int .i64 ((rd_T48 l1 x16_1).f5)] (by rfl) rfl rfl (by (try simp only [List.map_toArray, List.map_cons, List.map_nil]); rfl) ?_
          with_reducible refine (spec_Text.calls k1 ((rd_T48 l1 x16_1).f3) ((rd_T48 l1 x16_1).f4) ((rd_T48 l1 x16_1).f5) t442 _ A35.out).mono ?_
          rintro e w41 ⟨rfl, hb⟩
          refine ⟨_, rfl, ?_⟩
          have n0_ := Aside0.mk (Kd.R_below (by (with_reducible repeat (first | apply Kd.R_alloc | apply Kd.R_drewN | apply Kd.R_drew)); exact HO_5.out) hb)
          have n1_ := Aside0.mk (blk_below (g := gb429) (o := .cells #[.int .i64 ((rd_T48 l1 x16_1).f0), .string ((rd_T48 l1 x16_1).f1), .string ((rd_T48 l1 x16_1).f2), .int .i64 ((rd_T48 l1 x16_1).f3), .string ((rd_T48 l1 x16_1).f4), .int .i64 ((rd_T48 l1 x16_1).f5)] 48 (0, 0)) (by (with_reducible repeat (fail)); exact BK429.out) hb)
          have n2_ := Aside0.mk (below_step (by repeat ((with_reducible exact HB.out))) hb)
          clear HO_5
          clear BK429
          clear HB
          have HO_5 := n0_
          have BK429 := n1_
          have HB := n2_
          clear n0_ n1_ n2_
          (try clear hb)
          (try clear hb2)
          (try clear hk)
          (try clear hi)
          refine hK.out _ _ ⟨(blk_cell BK429.out 0).trans rfl, (blk_cell BK429.out 1).trans rfl, (blk_cell BK429.out 2).trans rfl, (blk_cell BK429.out 3).trans rfl, (blk_cell BK429.out 4).trans rfl, (blk_cell BK429.out 5).trans rfl⟩ (fun hHeld => ?_)
          clear hK K
          refine nok 50 ?_
          refine puk 10 51 ?_
          refine onk 11 52 (fun K hK => ?_)
          refine value_ (w1 := ?_) (v := ?_) (by rfl) rfl ?_ ?_
          rotate_left 2
          ·go_simp
           constructor
           ·rfl
           ·rfl
          refine hK.out _ _ ⟨(blk_cell (blk_alloc BK429.out _) 0).trans rfl, (blk_cell (blk_alloc BK429.out _) 1).trans rfl, (blk_cell (blk_alloc BK429.out _) 2).trans rfl, (blk_cell (blk_alloc BK429.out _) 3).trans rfl, (blk_cell (blk_alloc BK429.out _) 4).trans rfl, (blk_cell (blk_alloc BK429.out _) 5).trans rfl⟩ (fun hHeld => ?_)
          clear hK K
          refine nok 52 ?_
          refine onk 12 53 (fun K hK => ?_)
          refine Kd.R_append_step k65 (w0 := w) w.heap.size (by rfl) (.tmp 41) (.tmp 52) 23 65 (.agg #[(.string ⟨#[]⟩), (.string ⟨#[]⟩), (.bool false)]) 40 rfl Tryz.underlying23 info65 rfl (by decide) (by omega) u5 x5_1 (⟨(rd_T48 l1 x16_1).f2, t442, false⟩ : S65) [.string ((rd_T48 l1 x16_1).f2), .string t442, .bool false] (fun _ => True) (fun _ => False) rfl rfl ?aP (fun _ hk => hk.elim) ?aF ?aO ?aB ?aS ?aL ?_
          (case aP => exact k65_mkM _ _ _ (⟨(rd_T48 l1 x16_1).f2, t442, false⟩ : S65))
          (case aB => exact (by repeat ((with_reducible exact HB.out))))
          (case aF => exact (fun _ _ => trivial))
          (case aO => exact (by (with_reducible repeat (first | apply Kd.R_alloc | apply Kd.R_drewN | apply Kd.R_drew)); exact HO_5.out))
          (case aS => exact (below_size (by repeat ((with_reducible exact HB.out)))))
          (case aL => have := LMc36.out; omega)
          intro v444 w42 ho hb hg hat
          rw [← Ny443.out] at ho
          have n0_ := Aside0.mk (blk_grown (g := gb429) (o := .cells #[.int .i64 ((rd_T48 l1 x16_1).f0), .string ((rd_T48 l1 x16_1).f1), .string ((rd_T48 l1 x16_1).f2), .int .i64 ((rd_T48 l1 x16_1).f3), .string ((rd_T48 l1 x16_1).f4), .int .i64 ((rd_T48 l1 x16_1).f5)] 48 (0, 0)) (by (with_reducible repeat (fail)); exact BK429.out) hg (Kd.R_ne HO_5.out BK429.out (by decide)))
          have n1_ := Aside0.mk (hb)
          have n2_ := Aside0.mk (ho)
          clear BK429
          clear HB
          clear HO_5
          have BK429 := n0_
          have HB := n1_
          have HO445 := n2_
          clear n0_ n1_ n2_
          clear ho hb hg hat
          refine hK.out _ _ ⟨(blk_cell BK429.out 0).trans rfl, (blk_cell BK429.out 1).trans rfl, (blk_cell BK429.out 2).trans rfl, (blk_cell BK429.out 3).trans rfl, (blk_cell BK429.out 4).trans rfl, (blk_cell BK429.out 5).trans rfl⟩ (fun hHeld => ?_)
          clear hK K
          refine nok 53 ?_
          refine puk 13 5 ?_
          refine done_ (done_of HT_.out (by kernel_rfl)) ?_
          try go_wp2
          go_roundg k1
          case measure => have := HK1.out; omega
          case rel => exact ⟨(y443), (wrap64 (x16_1 + 1)), (by first | rfl | (simp; done) | (simp [*]; done)), H', ⟨by have := HK1.out; omega⟩, ⟨by (with_reducible repeat (first | apply Kd.R_alloc | apply Kd.R_drewN | apply Kd.R_drew)); exact HO445.out⟩, ⟨by repeat ((with_reducible exact HB.out))⟩⟩
         ·rw [if_neg c36] at H
          exact absurd H (by simp)
       ·rw [if_neg c9] at H
        exact absurd H (by simp)
      ·rw [if_neg c8] at H
       exact absurd H (by simp)
     ·rw [if_neg c7] at H
      have c7b0 : decide (x16_1 < (l1.length : Int)) = false := decide_eq_false c7
      clear c7
      obtain rfl := Option.some.inj H
      go_wp2
      go_ret
      exact ⟨_, by rfl, by (with_reducible repeat (first | apply Kd.R_alloc | apply Kd.R_drewN | apply Kd.R_drew)); exact HO_5.out, by repeat ((with_reducible exact HB.out))⟩
 ·rw [if_neg c3] at H
  exact absurd H (by simp)

end Go.Proofs.YtclmjmfcggkpaaaGreatDoor.PX
