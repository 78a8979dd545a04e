import Derived.Test.YtclmjmfcggkpaaaGreatDoorU4
import Derived.Test.YtclmjmfcggkpaaaGreatDoorU36
import Derived.Test.YtclmjmfcggkpaaaGreatDoorU37
namespace Go.Proofs.YtclmjmfcggkpaaaGreatDoor.PX
open Go.RowKit Go.Proofs.YtclmjmfcggkpaaaGreatDoorW.PrintWords Go.Proofs.YtclmjmfcggkpaaaGreatDoorW.PrintLast Go.Proofs.YtclmjmfcggkpaaaGreatDoorW.PrintMore
attribute [local go_sem] max2_int min2_int max_two min_two max_three min_three max_four min_four   -- for this text's walks alone
set_option linter.unusedVariables false
set_option linter.unusedSimpArgs false

/-! ### spec_AreHeaders: function 16 -/
mutual
def spec_AreHeaders.l0 : Nat → List (S73) → List (S48) → Int → List ByteArray → List (S73) → Int → Int → Option (Bool)
 | 0, _, _, _, _, _, _, _ => none
 | k + 1, x0, x1, x5, x6, x15, x16, x17 => if x17 < x16 then (if 0 ≤ x17 then (if x17 < (x15.length : Int) then (if x6.length < 8796093022208 then (spec_AreHeaders.l1 k x0 x1 (wrap64 (x5 + (((rd_T73 x15 x17).f0).size : Int))) (x6 ++ [(rd_T73 x15 x17).f0]) x15 x16 x17 ((rd_T73 x15 x17).f1) (((rd_T73 x15 x17).f1).length : Int) 0 ((rd_T73 x15 x17).f0) ((rd_T73 x15 x17).f1)) else (none)) else (none)) else (none)) else (spec_AreHeaders.l2 k x0 x1 x5 x6 x1 (x1.length : Int) 0)
def spec_AreHeaders.l1 : Nat → List (S73) → List (S48) → Int → List ByteArray → List (S73) → Int → Int → List ByteArray → Int → Int → ByteArray → List ByteArray → Option (Bool)
 | 0, _, _, _, _, _, _, _, _, _, _, _, _ => none
 | k + 1, x0, x1, x5, x6, x15, x16, x17, x32, x33, x34, x122000, x122001 => if x34 < x33 then (if 0 ≤ x34 then (if x34 < (x32.length : Int) then (spec_AreHeaders.l1 k x0 x1 (wrap64 (x5 + ((rdOf ByteArray.empty x32 x34).size : Int))) x6 x15 x16 x17 x32 x33 (wrap64 (x34 + 1)) x122000 x122001) else (none)) else (none)) else ((spec_IsHeaderName.f k x122000).bind fun t126 => (if t126 = true then (if (x122001.length : Int) = 0 then (some false) else (if (x122001.length : Int) > 100 then (some false) else (if x122000.toList = ([67, 111, 110, 116, 101, 110, 116, 45, 76, 101, 110, 103, 116, 104] : List UInt8) then (some false) else (spec_AreHeaders.l0 k x0 x1 x5 x6 x15 x16 (wrap64 (x17 + 1)))))) else (some false)))
def spec_AreHeaders.l2 : Nat → List (S73) → List (S48) → Int → List ByteArray → List (S48) → Int → Int → Option (Bool)
 | 0, _, _, _, _, _, _, _ => none
 | k + 1, x0, x1, x5, x6, x65, x66, x67 => if x67 < x66 then (if 0 ≤ x67 then (if x67 < (x65.length : Int) then ((spec_headerKey.f ((rd_T48 x65 x67).f0) ((rd_T48 x65 x67).f1) ((rd_T48 x65 x67).f2) ((rd_T48 x65 x67).f3) ((rd_T48 x65 x67).f4) ((rd_T48 x65 x67).f5)).bind fun t130 => (if ((rd_T48 x65 x67).f0) < 3 then (some false) else (if ((rd_T48 x65 x67).f0) > 6 then (some false) else (if ((rd_T48 x65 x67).f3) < 0 then (some false) else (if ((rd_T48 x65 x67).f3) > 6 then (some false) else ((spec_IsHeaderName.f k t130).bind fun t131 => (if t131 = true then ((spec_IsHeaderName.f k ((rd_T48 x65 x67).f2)).bind fun t132 => (if t132 = true then (if t130.toList = ([67, 111, 110, 116, 101, 110, 116, 45, 76, 101, 110, 103, 116, 104] : List UInt8) then (some false) else (spec_AreHeaders.l2 k x0 x1 (wrap64 (x5 + (wrap64 ((wrap64 ((((rd_T48 x65 x67).f2).size : Int) + (((rd_T48 x65 x67).f1).size : Int))) + (((rd_T48 x65 x67).f4).size : Int))))) x6 x65 x66 (wrap64 (x67 + 1)))) else (some false))) else (some false)))))))) else (none)) else (none)) else (if (x0.length : Int) ≤ 100 then (if (x1.length : Int) ≤ 100 then (if x5 ≤ 10000 then ((spec_areUnlike.f k x6).bind fun t127 => (some t127)) else (some false)) else (some false)) else (some false))
end
def spec_AreHeaders.f (k : Nat) (l0 : List (S73)) (l1 : List (S48)) : Option (Bool) := spec_AreHeaders.l0 k l0 l1 0 (([] : List ByteArray)) l0 (l0.length : Int) 0
theorem spec_AreHeaders.mono_l : ∀ k, (∀ y0 y1 y2 y3 y4 y5 y6, LeO (spec_AreHeaders.l0 k y0 y1 y2 y3 y4 y5 y6) (spec_AreHeaders.l0 (k + 1) y0 y1 y2 y3 y4 y5 y6)) ∧ (∀ y0 y1 y2 y3 y4 y5 y6 y7 y8 y9 y10 y11, LeO (spec_AreHeaders.l1 k y0 y1 y2 y3 y4 y5 y6 y7 y8 y9 y10 y11) (spec_AreHeaders.l1 (k + 1) y0 y1 y2 y3 y4 y5 y6 y7 y8 y9 y10 y11)) ∧ (∀ y0 y1 y2 y3 y4 y5 y6, LeO (spec_AreHeaders.l2 k y0 y1 y2 y3 y4 y5 y6) (spec_AreHeaders.l2 (k + 1) y0 y1 y2 y3 y4 y5 y6))
 | 0 => ⟨fun _ _ _ _ _ _ _ r h => by simp [spec_AreHeaders.l0] at h, fun _ _ _ _ _ _ _ _ _ _ _ _ r h => by simp [spec_AreHeaders.l1] at h, fun _ _ _ _ _ _ _ r h => by simp [spec_AreHeaders.l2] at h⟩
 | k + 1 => by
   obtain ⟨ih0, ih1, ih2⟩ := spec_AreHeaders.mono_l k
   refine ⟨?_, ?_, ?_⟩
   ·intro y0 y1 y2 y3 y4 y5 y6
    unfold spec_AreHeaders.l0
    repeat' first
    | (with_reducible exact ih0 _ _ _ _ _ _ _)
    | (with_reducible exact ih1 _ _ _ _ _ _ _ _ _ _ _ _)
    | (with_reducible exact ih2 _ _ _ _ _ _ _)
    | (with_reducible exact spec_IsHeaderName.mono _ _)
    | (with_reducible exact spec_areUnlike.mono _ _)
    | (with_reducible exact LeO.refl _)
    | (with_reducible exact LeO.none _)
    | (with_reducible refine LeO.ite ?_ ?_)
    | (with_reducible refine LeO.bind ?_ (fun _ => ?_))
    | exact ih0 _ _ _ _ _ _ _
    | exact ih1 _ _ _ _ _ _ _ _ _ _ _ _
    | exact ih2 _ _ _ _ _ _ _
    | exact spec_IsHeaderName.mono _ _
    | exact spec_areUnlike.mono _ _
    | exact LeO.none _
    | refine LeO.ite ?_ ?_
    | refine LeO.bind ?_ (fun _ => ?_)
   ·intro y0 y1 y2 y3 y4 y5 y6 y7 y8 y9 y10 y11
    unfold spec_AreHeaders.l1
    repeat' first
    | (with_reducible exact ih0 _ _ _ _ _ _ _)
    | (with_reducible exact ih1 _ _ _ _ _ _ _ _ _ _ _ _)
    | (with_reducible exact ih2 _ _ _ _ _ _ _)
    | (with_reducible exact spec_IsHeaderName.mono _ _)
    | (with_reducible exact spec_areUnlike.mono _ _)
    | (with_reducible exact LeO.refl _)
    | (with_reducible exact LeO.none _)
    | (with_reducible refine LeO.ite ?_ ?_)
    | (with_reducible refine LeO.bind ?_ (fun _ => ?_))
    | exact ih0 _ _ _ _ _ _ _
    | exact ih1 _ _ _ _ _ _ _ _ _ _ _ _
    | exact ih2 _ _ _ _ _ _ _
    | exact spec_IsHeaderName.mono _ _
    | exact spec_areUnlike.mono _ _
    | exact LeO.none _
    | refine LeO.ite ?_ ?_
    | refine LeO.bind ?_ (fun _ => ?_)
   ·intro y0 y1 y2 y3 y4 y5 y6
    unfold spec_AreHeaders.l2
    repeat' first
    | (with_reducible exact ih0 _ _ _ _ _ _ _)
    | (with_reducible exact ih1 _ _ _ _ _ _ _ _ _ _ _ _)
    | (with_reducible exact ih2 _ _ _ _ _ _ _)
    | (with_reducible exact spec_IsHeaderName.mono _ _)
    | (with_reducible exact spec_areUnlike.mono _ _)
    | (with_reducible exact LeO.refl _)
    | (with_reducible exact LeO.none _)
    | (with_reducible refine LeO.ite ?_ ?_)
    | (with_reducible refine LeO.bind ?_ (fun _ => ?_))
    | exact ih0 _ _ _ _ _ _ _
    | exact ih1 _ _ _ _ _ _ _ _ _ _ _ _
    | exact ih2 _ _ _ _ _ _ _
    | exact spec_IsHeaderName.mono _ _
    | exact spec_areUnlike.mono _ _
    | exact LeO.none _
    | refine LeO.ite ?_ ?_
    | refine LeO.bind ?_ (fun _ => ?_)
set_option maxHeartbeats 8000000 in
set_option maxRecDepth 100000 in
theorem spec_AreHeaders.calls (k : Nat) (A0 : Option Addr) (c0 : Nat) (l0 : List (S73)) (A1 : Option Addr) (c1 : Nat) (l1 : List (S48)) (r : Bool) (w : World) (hr0 : Kd.C k73 w A0 l0.length l0) (hc0 : l0.length ≤ c0) (hr1 : Kd.C k48 w A1 l1.length l1) (hc1 : l1.length ≤ c1) (h : spec_AreHeaders.f k l0 l1 = some r) :
 Calls Tryz.prog 16 #[.slice A0 l0.length c0, .slice A1 l1.length c1] w fun e w' => e = .returned (.bool r) ∧ Below w.heap.size w w' := by
 have hu73 := Tryz.underlying73
 have hu48 := Tryz.underlying48
 have HR0 := Aside0.mk hr0
 have HC0 := Aside0.mk hc0
 clear hr0 hc0
 have HR1 := Aside0.mk hr1
 have HC1 := Aside0.mk hc1
 clear hr1 hc1
 have HB := Aside0.mk (Below.refl w.heap.size w)
 have H : (spec_AreHeaders.l0 k l0 l1 0 (([] : List ByteArray)) l0 (l0.length : Int) 0) = some r := h
 clear h
 obtain ⟨y117, hy117⟩ : ∃ y_ : List ByteArray, y_ = (([] : List ByteArray)) := ⟨_, rfl⟩
 replace H : (spec_AreHeaders.l0 k l0 l1 0 y117 l0 (l0.length : Int) 0) = some r := by (rw [hy117]; with_reducible exact H)
 have Ny117 := Aside0.mk hy117
 clear hy117
 have H' := Aside0.mk H
 clear H
 go_enter Tryz.func16, Tryz.ntmps16
 go_wp2_with (first | ((with_reducible refine gate_dst (N := 14) rfl ?_); (try (refine gate_guard (by rfl) ?_; dsimp only)); refine Kd.R_lit Kd.string _ 9 ?hg (N := 14) ?hd (xs := ([] : List ByteArray)) (inner := []) (ok := fun _ => True) (okp := fun _ => True) ?hr ?hp (fun _ hk => hk) trivial (Below.refl _ _) (Nat.le_refl _) (by simp) ?_; (case hd => rfl); (case hg => rfl); (case hr => first | (go_simp; done) | (go_simp; rfl)); (case hp => exact (Reps.none _ _)); intro v118 w3 ho4 hb hg_ hnew_; clear hg_ hnew_; (rw [← Ny117.out] at ho4); have n0_ := Aside0.mk (Kd.R_lower ho4 (below_size (by repeat ((with_reducible exact HB.out))))); have n1_ := Aside0.mk (below_step (by repeat ((with_reducible exact HB.out))) hb); clear HB; have HO119 := n0_; have HB := n1_; clear n0_ n1_; clear hb ho4))
 go_loopg [5, 6, 17] k (fun kq v5 v6 v17 w' => ∃ (x5_1 : Int) (x6_1 : List ByteArray) (x17_1 : Int), v5 = .int .i64 x5_1 ∧ v17 = .int .i64 x17_1 ∧ Aside0 (spec_AreHeaders.l0 kq l0 l1 x5_1 x6_1 l0 (l0.length : Int) x17_1 = some r) ∧ Aside0 (kq ≤ k) ∧ Aside0 (Kd.R Kd.string 9 w' w.heap.size (fun _ => True) v6 x6_1) ∧ Aside0 (Below w.heap.size w w'))
 case atStart => exact ⟨(0), (y117), (0), (by first | rfl | (simp; done) | (simp [*]; done)), (by first | rfl | (simp; done) | (simp [*]; done)), H', ⟨Nat.le_refl _⟩, ⟨by (with_reducible repeat (first | apply Kd.R_alloc | apply Kd.R_drewN | apply Kd.R_drew)); exact HO119.out⟩, ⟨by repeat ((with_reducible exact HB.out))⟩⟩
 case round =>
  clear H'
  try clear c1
  try clear p2
  obtain ⟨x5_1, x6_1, x17_1, rfl, rfl, HA, HK1, HO_6, HB⟩ := hrel
  cases gk with
  | zero => exact absurd HA.out (by simp [spec_AreHeaders.l0])
  | succ k1 =>
    have H := HA.out
    clear HA
    simp only [spec_AreHeaders.l0] at H
    by_cases c5 : x17_1 < (l0.length : Int)
    ·rw [if_pos c5] at H
     have c5b0 : decide (x17_1 < (l0.length : Int)) = true := decide_eq_true c5
     clear c5
     by_cases c6 : 0 ≤ x17_1
     ·rw [if_pos c6] at H
      have c6b0 : decide (0 ≤ x17_1) = true := decide_eq_true c6
      clear c6
      by_cases c7 : x17_1 < (l0.length : Int)
      ·rw [if_pos c7] at H
       have c7b0 : decide (x17_1 < (l0.length : Int)) = true := decide_eq_true c7
       clear c7
       by_cases c8 : x6_1.length < 8796093022208
       ·rw [if_pos c8] at H
        have LMc8 := Aside0.mk c8
        clear c8
        obtain ⟨y122, hy122⟩ : ∃ y_ : List ByteArray, y_ = (x6_1 ++ [(rd_T73 l0 x17_1).f0]) := ⟨_, rfl⟩
        replace H : (spec_AreHeaders.l1 k1 l0 l1 (wrap64 (x5_1 + (((rd_T73 l0 x17_1).f0).size : Int))) y122 l0 (l0.length : Int) x17_1 ((rd_T73 l0 x17_1).f1) (((rd_T73 l0 x17_1).f1).length : Int) 0 ((rd_T73 l0 x17_1).f0) ((rd_T73 l0 x17_1).f1)) = some r := by (rw [hy122]; with_reducible exact H)
        have Ny122 := Aside0.mk hy122
        clear hy122
        have H' := Aside0.mk H
        clear H
        have p120 : 0 ≤ (x17_1 : Int) := of_decide_eq_true (by first | (with_reducible assumption) | assumption)
        have q120 : x17_1 < (l0.length : Int) := of_decide_eq_true (by first | (with_reducible assumption) | assumption)
        obtain ⟨ad120, A120_1, c120_1, e120, hx120_0, hx120_1, hl120_1, hi120_1⟩ := at_T73 HR0.out x17_1 p120 q120
        cases e120
        replace hx120_0 := (HB.out.cell (World.block_lt_of_cell? w _ hx120_0)).trans hx120_0
        replace hx120_1 := (HB.out.cell (World.block_lt_of_cell? w _ hx120_1)).trans hx120_1
        have HR120_1 := Aside0.mk hi120_1
        have HC120_1 := Aside0.mk hl120_1
        clear hi120_1 hl120_1
        replace p120 := eq_true p120
        replace q120 := eq_true q120
        go_wp2_with (first | ((with_reducible refine gate_dst (N := 8) rfl ?_); (try (refine gate_guard (by rfl) ?_; dsimp only)); refine box_event ?hg (N := 8) ?hd (cs := #[.string (⟨#[]⟩ : ByteArray), .slice none 0 0]) (t := 73) ?hr ?_; (case hd => rfl); (case hg => rfl); (case hr => first | (go_simp; done) | (go_simp; rfl)); intro gb121 hg w9 hbox hb; have n0_ := Aside0.mk (Kd.R_below (by (with_reducible repeat (first | apply Kd.R_alloc | apply Kd.R_drewN | apply Kd.R_drew)); exact HO_6.out) hb); have n1_ := Aside0.mk (below_step (by repeat ((with_reducible exact HB.out))) hb); have n2_ := Aside0.mk (hbox); have n3_ := Aside0.mk ((by rw [hg]; exact (below_size (by repeat ((with_reducible exact HB.out)))) : w.heap.size ≤ gb121)); have n4_ := Aside0.mk ((by rw [hg]; exact (below_size (by repeat ((with_reducible exact HB.out)))) : w.heap.size ≤ gb121)); clear HO_6; clear HB; have HO_6 := n0_; have HB := n1_; have BK121 := n2_; have GW121 := n3_; have GE121 := n4_; clear n0_ n1_ n2_ n3_ n4_; clear hb hbox hg; have hcz10_0 : w9.cell? ⟨gb121, 0, none⟩ = some (.string (⟨#[]⟩ : ByteArray)) := (blk_cell BK121.out 0).trans rfl; have hcz10_1 : w9.cell? ⟨gb121, 1, none⟩ = some (.slice none 0 0) := (blk_cell BK121.out 1).trans rfl; have hfz10_0 := blk_frozen BK121.out 0; have hfz10_1 := blk_frozen BK121.out 1) | ((with_reducible refine gate_builtin (b := .append) (xs := #[.tmp 21, .tmp 24]) rfl ?_); (try (refine gate_guard (by rfl) ?_; dsimp only)); at_builtin; refine Kd.R_append Kd.string (w0 := w) w.heap.size rfl (.tmp 21) (.tmp 24) 67 9 (.string ⟨#[]⟩) 16 rfl Tryz.underlying67 info9 rfl (by decide) (by omega) u6 x6_1 ((rd_T73 l0 x17_1).f0) [.string ((rd_T73 l0 x17_1).f0)] (fun _ => True) (fun _ => False) rfl (by first | (go_simp; done) | (go_simp; rfl)) ?aP (fun _ hk => hk.elim) ?aF ?aO ?aB ?aS ?aL ?_; (case aP => exact rfl); (case aB => exact (by repeat ((with_reducible first | exact HB.out | refine below_set ?_ GE121.out)))); (case aF => exact (fun _ _ => trivial)); (case aO => exact (by (with_reducible repeat (first | apply Kd.R_alloc | apply Kd.R_drewN | apply Kd.R_drew)); exact Kd.R_mono (Kd.R_far (p := ⟨gb121, 1, none⟩) (Kd.R_far (p := ⟨gb121, 0, none⟩) (Kd.R_types HO_6.out BK121.out (by decide)) (fun _ hk => hk.2) (.string ((rd_T73 l0 x17_1).f0))) (fun _ hk => hk.2) (.slice A120_1 ((rd_T73 l0 x17_1).f1).length c120_1)) (fun _ hk => trivial))); (case aS => exact (below_size (by repeat ((with_reducible first | exact HB.out | refine below_set ?_ GE121.out))))); (case aL => have := LMc8.out; omega); intro v123 w11 ho hb hg hat; rw [← Ny122.out] at ho; have n0_ := Aside0.mk (blk_grown (g := gb121) (o := .cells #[.string ((rd_T73 l0 x17_1).f0), .slice A120_1 ((rd_T73 l0 x17_1).f1).length c120_1] 73 (0, 0)) (by (with_reducible repeat (fail)); refine blk_put (cs := #[.string ((rd_T73 l0 x17_1).f0), .slice none 0 0]) ?_ 1 _ rfl; (with_reducible repeat (fail)); refine blk_put (cs := #[.string (⟨#[]⟩ : ByteArray), .slice none 0 0]) ?_ 0 _ rfl; (with_reducible repeat (fail)); exact BK121.out) hg (Kd.R_ne HO_6.out BK121.out (by decide))); have n1_ := Aside0.mk (hb); have n2_ := Aside0.mk (ho); clear BK121; clear HB; clear HO_6; have BK121 := n0_; have HB := n1_; have HO124 := n2_; clear n0_ n1_ n2_; clear ho hb hg hat; have hcz12_0 : w11.cell? ⟨gb121, 0, none⟩ = some (.string ((rd_T73 l0 x17_1).f0)) := (blk_cell BK121.out 0).trans rfl; have hcz12_1 : w11.cell? ⟨gb121, 1, none⟩ = some (.slice A120_1 ((rd_T73 l0 x17_1).f1).length c120_1) := (blk_cell BK121.out 1).trans rfl; have hfz12_0 := blk_frozen BK121.out 0; have hfz12_1 := blk_frozen BK121.out 1))
        go_loopg [5, 34] k1 (fun kq v5 v34 w' => ∃ (x5_2 : Int) (x34_2 : Int), v5 = .int .i64 x5_2 ∧ v34 = .int .i64 x34_2 ∧ Aside0 (spec_AreHeaders.l1 kq l0 l1 x5_2 y122 l0 (l0.length : Int) x17_1 ((rd_T73 l0 x17_1).f1) (((rd_T73 l0 x17_1).f1).length : Int) x34_2 ((rd_T73 l0 x17_1).f0) ((rd_T73 l0 x17_1).f1) = some r) ∧ Aside0 (kq ≤ k1) ∧ Aside0 (Kd.R Kd.string 9 w' w.heap.size (fun _ => True) v123 y122) ∧ Aside0 (w'.heap[gb121]? = some (.cells #[.string ((rd_T73 l0 x17_1).f0), (.slice A120_1 ((rd_T73 l0 x17_1).f1).length c120_1)] 73 (0, 0))) ∧ Aside0 (Below w.heap.size w w'))
        case atStart => exact ⟨(wrap64 (x5_1 + (((rd_T73 l0 x17_1).f0).size : Int))), (0), (by first | rfl | (simp; done) | (simp [*]; done)), (by first | rfl | (simp; done) | (simp [*]; done)), H', ⟨Nat.le_refl _⟩, ⟨by (with_reducible repeat (first | apply Kd.R_alloc | apply Kd.R_drewN | apply Kd.R_drew)); exact HO124.out⟩, ⟨by (with_reducible repeat (fail)); exact BK121.out⟩, ⟨by repeat ((with_reducible exact HB.out))⟩⟩
        case round =>
         clear H'
         try clear c1
         try clear p1
         try clear q1
         try clear hx1
         try clear p2
         try clear c5
         try clear c5b0
         try clear c6
         try clear c6b0
         try clear p6
         try clear c7
         try clear c7b0
         try clear c8
         try clear c12
         try clear p12
         try clear q12
         try clear hx12
         try clear hcz10_0
         try clear hcz10_1
         try clear hcz12_0
         try clear hcz12_1
         try clear hfz10_0
         try clear hfz10_1
         try clear hfz12_0
         try clear hfz12_1
         try clear hx120_0
         try clear hx120_1
         try clear p120
         try clear p2
         try clear q120
         obtain ⟨x5_2, x34_2, rfl, rfl, HA, HK2, HO_6, BK121, HB⟩ := hrel
         cases gk with
         | zero => exact absurd HA.out (by simp [spec_AreHeaders.l1])
         | succ k2 =>
           have H := HA.out
           clear HA
           simp only [spec_AreHeaders.l1] at H
           by_cases c13 : x34_2 < (((rd_T73 l0 x17_1).f1).length : Int)
           ·rw [if_pos c13] at H
            have c13b0 : decide (x34_2 < (((rd_T73 l0 x17_1).f1).length : Int)) = true := decide_eq_true c13
            clear c13
            by_cases c14 : 0 ≤ x34_2
            ·rw [if_pos c14] at H
             have c14b0 : decide (0 ≤ x34_2) = true := decide_eq_true c14
             clear c14
             by_cases c15 : x34_2 < (((rd_T73 l0 x17_1).f1).length : Int)
             ·rw [if_pos c15] at H
              have c15b0 : decide (x34_2 < (((rd_T73 l0 x17_1).f1).length : Int)) = true := decide_eq_true c15
              clear c15
              have H' := Aside0.mk H
              clear H
              have p125 : 0 ≤ (x34_2 : Int) := of_decide_eq_true (by first | (with_reducible assumption) | assumption)
              have q125 : x34_2 < (((rd_T73 l0 x17_1).f1).length : Int) := of_decide_eq_true (by first | (with_reducible assumption) | assumption)
              obtain ⟨ad125, e125, hx125_0⟩ := Kd.at_string HR120_1.out x34_2 p125 q125
              cases e125
              replace hx125_0 := (HB.out.cell (World.block_lt_of_cell? w _ hx125_0)).trans hx125_0
              replace p125 := eq_true p125
              replace q125 := eq_true q125
              go_wp2
              go_roundg k2
              case measure => have := HK1.out; have := HK2.out; omega
              case rel => exact ⟨(wrap64 (x5_2 + ((rdOf ByteArray.empty ((rd_T73 l0 x17_1).f1) x34_2).size : Int))), (wrap64 (x34_2 + 1)), (by first | rfl | (simp; done) | (simp [*]; done)), (by first | rfl | (simp; done) | (simp [*]; done)), H', ⟨by have := HK1.out; have := HK2.out; omega⟩, ⟨by (with_reducible repeat (first | apply Kd.R_alloc | apply Kd.R_drewN | apply Kd.R_drew)); exact HO_6.out⟩, ⟨by (with_reducible repeat (fail)); exact BK121.out⟩, ⟨by repeat ((with_reducible exact HB.out))⟩⟩
             ·rw [if_neg c15] at H
              exact absurd H (by simp)
            ·rw [if_neg c14] at H
             exact absurd H (by simp)
           ·rw [if_neg c13] at H
            have c13b0 : decide (x34_2 < (((rd_T73 l0 x17_1).f1).length : Int)) = false := decide_eq_false c13
            clear c13
            replace H := Option.bind_eq_some_iff.mp H
            obtain ⟨t126, A160, H⟩ := H
            replace H : (if t126 = true then (if (((rd_T73 l0 x17_1).f1).length : Int) = 0 then (some false) else (if (((rd_T73 l0 x17_1).f1).length : Int) > 100 then (some false) else (if ((rd_T73 l0 x17_1).f0).toList = ([67, 111, 110, 116, 101, 110, 116, 45, 76, 101, 110, 103, 116, 104] : List UInt8) then (some false) else (spec_AreHeaders.l0 k2 l0 l1 x5_2 y122 l0 (l0.length : Int) (wrap64 (x17_1 + 1)))))) else (some false)) = some r := H
            have A16 := Aside0.mk A160
            clear A160
            by_cases c17 : t126 = true
            ·subst c17
             have H1 : (if (((rd_T73 l0 x17_1).f1).length : Int) = 0 then (some false) else (if (((rd_T73 l0 x17_1).f1).length : Int) > 100 then (some false) else (if ((rd_T73 l0 x17_1).f0).toList = ([67, 111, 110, 116, 101, 110, 116, 45, 76, 101, 110, 103, 116, 104] : List UInt8) then (some false) else (spec_AreHeaders.l0 k2 l0 l1 x5_2 y122 l0 (l0.length : Int) (wrap64 (x17_1 + 1)))))) = some r := by rw [if_pos rfl] at H; exact H
             clear H
             have H := H1
             clear H1
             by_cases c18 : (((rd_T73 l0 x17_1).f1).length : Int) = 0
             ·rw [if_pos c18] at H
              have c18b0 : ((((rd_T73 l0 x17_1).f1).length : Int) == 0) = true := beq_iff_eq.mpr c18
              have c18b1 : ((((rd_T73 l0 x17_1).f1).length : Int) != 0) = false := bne_eq_false_iff_eq.mpr c18
              clear c18
              obtain rfl := Option.some.inj H
              have hcz19_0 : wr.cell? ⟨gb121, 0, none⟩ = some (.string ((rd_T73 l0 x17_1).f0)) := (blk_cell BK121.out 0).trans rfl
              have hcz19_1 : wr.cell? ⟨gb121, 1, none⟩ = some (.slice A120_1 ((rd_T73 l0 x17_1).f1).length c120_1) := (blk_cell BK121.out 1).trans rfl
              have hfz19_0 := blk_frozen BK121.out 0
              have hfz19_1 := blk_frozen BK121.out 1
              go_wp2_with (first | ((with_reducible refine gate_callee (f := 35) rfl ?_); refine goesL_ (some 45) rfl rfl Tryz.func35 (by kernel_rfl) rfl #[.string ((rd_T73 l0 x17_1).f0)] rfl (by (try simp only [List.map_toArray, List.map_cons, List.map_nil]); rfl) ?_; (with_reducible refine (spec_IsHeaderName.calls k2 ((rd_T73 l0 x17_1).f0) true _ A16.out).mono ?_); rintro e w20 ⟨rfl, hb⟩; refine ⟨_, rfl, ?_⟩; have n0_ := Aside0.mk (Kd.R_below (by (with_reducible repeat (first | apply Kd.R_alloc | apply Kd.R_drewN | apply Kd.R_drew)); exact HO_6.out) hb); have n1_ := Aside0.mk (blk_below (g := gb121) (o := .cells #[.string ((rd_T73 l0 x17_1).f0), .slice A120_1 ((rd_T73 l0 x17_1).f1).length c120_1] 73 (0, 0)) (by (with_reducible repeat (fail)); exact BK121.out) hb); have n2_ := Aside0.mk (below_step (by repeat ((with_reducible exact HB.out))) hb); clear HO_6; clear BK121; clear HB; have HO_6 := n0_; have BK121 := n1_; have HB := n2_; clear n0_ n1_ n2_; (try clear hb); (try clear hb2); (try clear hk); (try clear hi); have hcz21_0 : w20.cell? ⟨gb121, 0, none⟩ = some (.string ((rd_T73 l0 x17_1).f0)) := (blk_cell BK121.out 0).trans rfl; have hcz21_1 : w20.cell? ⟨gb121, 1, none⟩ = some (.slice A120_1 ((rd_T73 l0 x17_1).f1).length c120_1) := (blk_cell BK121.out 1).trans rfl; have hfz21_0 := blk_frozen BK121.out 0; have hfz21_1 := blk_frozen BK121.out 1))
              go_ret
              exact ⟨by rfl, by repeat ((with_reducible exact HB.out))⟩
             ·rw [if_neg c18] at H
              have c18b0 : ((((rd_T73 l0 x17_1).f1).length : Int) == 0) = false := beq_eq_false_iff_ne.mpr c18
              have c18b1 : ((((rd_T73 l0 x17_1).f1).length : Int) != 0) = true := bne_iff_ne.mpr c18
              have c18b2 : ¬ (((rd_T73 l0 x17_1).f1) = []) := fun h_ => c18 (by rw [h_]; rfl)
              by_cases c22 : (((rd_T73 l0 x17_1).f1).length : Int) > 100
              ·rw [if_pos c22] at H
               have c22b0 : decide (100 < (((rd_T73 l0 x17_1).f1).length : Int)) = true := decide_eq_true c22
               have c22b1 : decide (100 < ((rd_T73 l0 x17_1).f1).length) = true := decide_eq_true (by omega)
               clear c22
               obtain rfl := Option.some.inj H
               have hcz23_0 : wr.cell? ⟨gb121, 0, none⟩ = some (.string ((rd_T73 l0 x17_1).f0)) := (blk_cell BK121.out 0).trans rfl
               have hcz23_1 : wr.cell? ⟨gb121, 1, none⟩ = some (.slice A120_1 ((rd_T73 l0 x17_1).f1).length c120_1) := (blk_cell BK121.out 1).trans rfl
               have hfz23_0 := blk_frozen BK121.out 0
               have hfz23_1 := blk_frozen BK121.out 1
               go_wp2_with (first | ((with_reducible refine gate_callee (f := 35) rfl ?_); refine goesL_ (some 45) rfl rfl Tryz.func35 (by kernel_rfl) rfl #[.string ((rd_T73 l0 x17_1).f0)] rfl (by (try simp only [List.map_toArray, List.map_cons, List.map_nil]); rfl) ?_; (with_reducible refine (spec_IsHeaderName.calls k2 ((rd_T73 l0 x17_1).f0) true _ A16.out).mono ?_); rintro e w24 ⟨rfl, hb⟩; refine ⟨_, rfl, ?_⟩; have n0_ := Aside0.mk (Kd.R_below (by (with_reducible repeat (first | apply Kd.R_alloc | apply Kd.R_drewN | apply Kd.R_drew)); exact HO_6.out) hb); have n1_ := Aside0.mk (blk_below (g := gb121) (o := .cells #[.string ((rd_T73 l0 x17_1).f0), .slice A120_1 ((rd_T73 l0 x17_1).f1).length c120_1] 73 (0, 0)) (by (with_reducible repeat (fail)); exact BK121.out) hb); have n2_ := Aside0.mk (below_step (by repeat ((with_reducible exact HB.out))) hb); clear HO_6; clear BK121; clear HB; have HO_6 := n0_; have BK121 := n1_; have HB := n2_; clear n0_ n1_ n2_; (try clear hb); (try clear hb2); (try clear hk); (try clear hi); have hcz25_0 : w24.cell? ⟨gb121, 0, none⟩ = some (.string ((rd_T73 l0 x17_1).f0)) := (blk_cell BK121.out 0).trans rfl; have hcz25_1 : w24.cell? ⟨gb121, 1, none⟩ = some (.slice A120_1 ((rd_T73 l0 x17_1).f1).length c120_1) := (blk_cell BK121.out 1).trans rfl; have hfz25_0 := blk_frozen BK121.out 0; have hfz25_1 := blk_frozen BK121.out 1))
               go_ret
               exact ⟨by rfl, by repeat ((with_reducible exact HB.out))⟩
              ·rw [if_neg c22] at H
               have c22b0 : decide (100 < (((rd_T73 l0 x17_1).f1).length : Int)) = false := decide_eq_false c22
               have c22b1 : decide (100 < ((rd_T73 l0 x17_1).f1).length) = false := decide_eq_false (by omega)
               clear c22
               by_cases c26 : ((rd_T73 l0 x17_1).f0).toList = ([67, 111, 110, 116, 101, 110, 116, 45, 76, 101, 110, 103, 116, 104] : List UInt8)
               ·rw [if_pos c26] at H
                have c26b0 : (((rd_T73 l0 x17_1).f0).toList == ([67, 111, 110, 116, 101, 110, 116, 45, 76, 101, 110, 103, 116, 104] : List UInt8)) = true := beq_iff_eq.mpr c26
                have c26b1 : (((rd_T73 l0 x17_1).f0).toList != ([67, 111, 110, 116, 101, 110, 116, 45, 76, 101, 110, 103, 116, 104] : List UInt8)) = false := bne_eq_false_iff_eq.mpr c26
                clear c26
                obtain rfl := Option.some.inj H
                have hcz27_0 : wr.cell? ⟨gb121, 0, none⟩ = some (.string ((rd_T73 l0 x17_1).f0)) := (blk_cell BK121.out 0).trans rfl
                have hcz27_1 : wr.cell? ⟨gb121, 1, none⟩ = some (.slice A120_1 ((rd_T73 l0 x17_1).f1).length c120_1) := (blk_cell BK121.out 1).trans rfl
                have hfz27_0 := blk_frozen BK121.out 0
                have hfz27_1 := blk_frozen BK121.out 1
                go_wp2_with (first | ((with_reducible refine gate_callee (f := 35) rfl ?_); refine goesL_ (some 45) rfl rfl Tryz.func35 (by kernel_rfl) rfl #[.string ((rd_T73 l0 x17_1).f0)] rfl (by (try simp only [List.map_toArray, List.map_cons, List.map_nil]); rfl) ?_; (with_reducible refine (spec_IsHeaderName.calls k2 ((rd_T73 l0 x17_1).f0) true _ A16.out).mono ?_); rintro e w28 ⟨rfl, hb⟩; refine ⟨_, rfl, ?_⟩; have n0_ := Aside0.mk (Kd.R_below (by (with_reducible repeat (first | apply Kd.R_alloc | apply Kd.R_drewN | apply Kd.R_drew)); exact HO_6.out) hb); have n1_ := Aside0.mk (blk_below (g := gb121) (o := .cells #[.string ((rd_T73 l0 x17_1).f0), .slice A120_1 ((rd_T73 l0 x17_1).f1).length c120_1] 73 (0, 0)) (by (with_reducible repeat (fail)); exact BK121.out) hb); have n2_ := Aside0.mk (below_step (by repeat ((with_reducible exact HB.out))) hb); clear HO_6; clear BK121; clear HB; have HO_6 := n0_; have BK121 := n1_; have HB := n2_; clear n0_ n1_ n2_; (try clear hb); (try clear hb2); (try clear hk); (try clear hi); have hcz29_0 : w28.cell? ⟨gb121, 0, none⟩ = some (.string ((rd_T73 l0 x17_1).f0)) := (blk_cell BK121.out 0).trans rfl; have hcz29_1 : w28.cell? ⟨gb121, 1, none⟩ = some (.slice A120_1 ((rd_T73 l0 x17_1).f1).length c120_1) := (blk_cell BK121.out 1).trans rfl; have hfz29_0 := blk_frozen BK121.out 0; have hfz29_1 := blk_frozen BK121.out 1))
                go_ret
                exact ⟨by rfl, by repeat ((with_reducible exact HB.out))⟩
               ·rw [if_neg c26] at H
                have c26b0 : (((rd_T73 l0 x17_1).f0).toList == ([67, 111, 110, 116, 101, 110, 116, 45, 76, 101, 110, 103, 116, 104] : List UInt8)) = false := beq_eq_false_iff_ne.mpr c26
                have c26b1 : (((rd_T73 l0 x17_1).f0).toList != ([67, 111, 110, 116, 101, 110, 116, 45, 76, 101, 110, 103, 116, 104] : List UInt8)) = true := bne_iff_ne.mpr c26
                have H' := Aside0.mk H
                clear H
                have hcz30_0 : wr.cell? ⟨gb121, 0, none⟩ = some (.string ((rd_T73 l0 x17_1).f0)) := (blk_cell BK121.out 0).trans rfl
                have hcz30_1 : wr.cell? ⟨gb121, 1, none⟩ = some (.slice A120_1 ((rd_T73 l0 x17_1).f1).length c120_1) := (blk_cell BK121.out 1).trans rfl
                have hfz30_0 := blk_frozen BK121.out 0
                have hfz30_1 := blk_frozen BK121.out 1
                go_wp2_with (first | ((with_reducible refine gate_callee (f := 35) rfl ?_); refine goesL_ (some 45) rfl rfl Tryz.func35 (by kernel_rfl) rfl #[.string ((rd_T73 l0 x17_1).f0)] rfl (by (try simp only [List.map_toArray, List.map_cons, List.map_nil]); rfl) ?_; (with_reducible refine (spec_IsHeaderName.calls k2 ((rd_T73 l0 x17_1).f0) true _ A16.out).mono ?_); rintro e w31 ⟨rfl, hb⟩; refine ⟨_, rfl, ?_⟩; have n0_ := Aside0.mk (Kd.R_below (by (with_reducible repeat (first | apply Kd.R_alloc | apply Kd.R_drewN | apply Kd.R_drew)); exact HO_6.out) hb); have n1_ := Aside0.mk (blk_below (g := gb121) (o := .cells #[.string ((rd_T73 l0 x17_1).f0), .slice A120_1 ((rd_T73 l0 x17_1).f1).length c120_1] 73 (0, 0)) (by (with_reducible repeat (fail)); exact BK121.out) hb); have n2_ := Aside0.mk (below_step (by repeat ((with_reducible exact HB.out))) hb); clear HO_6; clear BK121; clear HB; have HO_6 := n0_; have BK121 := n1_; have HB := n2_; clear n0_ n1_ n2_; (try clear hb); (try clear hb2); (try clear hk); (try clear hi); have hcz32_0 : w31.cell? ⟨gb121, 0, none⟩ = some (.string ((rd_T73 l0 x17_1).f0)) := (blk_cell BK121.out 0).trans rfl; have hcz32_1 : w31.cell? ⟨gb121, 1, none⟩ = some (.slice A120_1 ((rd_T73 l0 x17_1).f1).length c120_1) := (blk_cell BK121.out 1).trans rfl; have hfz32_0 := blk_frozen BK121.out 0; have hfz32_1 := blk_frozen BK121.out 1))
                go_roundg k2
                case measure => have := HK1.out; have := HK2.out; omega
                case rel => exact ⟨(x5_2), (y122), (wrap64 (x17_1 + 1)), (by first | rfl | (simp; done) | (simp [*]; done)), (by first | rfl | (simp; done) | (simp [*]; done)), H', ⟨by have := HK1.out; have := HK2.out; omega⟩, ⟨by (with_reducible repeat (first | apply Kd.R_alloc | apply Kd.R_drewN | apply Kd.R_drew)); exact HO_6.out⟩, ⟨by repeat ((with_reducible exact HB.out))⟩⟩
            ·replace c17 := Bool.eq_false_iff.mpr c17
             subst c17
             have H1 : (some false) = some r := by rw [if_neg (show ¬ (false = true) by decide)] at H; exact H
             clear H
             have H := H1
             clear H1
             obtain rfl := Option.some.inj H
             have hcz33_0 : wr.cell? ⟨gb121, 0, none⟩ = some (.string ((rd_T73 l0 x17_1).f0)) := (blk_cell BK121.out 0).trans rfl
             have hcz33_1 : wr.cell? ⟨gb121, 1, none⟩ = some (.slice A120_1 ((rd_T73 l0 x17_1).f1).length c120_1) := (blk_cell BK121.out 1).trans rfl
             have hfz33_0 := blk_frozen BK121.out 0
             have hfz33_1 := blk_frozen BK121.out 1
             go_wp2_with (first | ((with_reducible refine gate_callee (f := 35) rfl ?_); refine goesL_ (some 45) rfl rfl Tryz.func35 (by kernel_rfl) rfl #[.string ((rd_T73 l0 x17_1).f0)] rfl (by (try simp only [List.map_toArray, List.map_cons, List.map_nil]); rfl) ?_; (with_reducible refine (spec_IsHeaderName.calls k2 ((rd_T73 l0 x17_1).f0) false _ A16.out).mono ?_); rintro e w34 ⟨rfl, hb⟩; refine ⟨_, rfl, ?_⟩; have n0_ := Aside0.mk (Kd.R_below (by (with_reducible repeat (first | apply Kd.R_alloc | apply Kd.R_drewN | apply Kd.R_drew)); exact HO_6.out) hb); have n1_ := Aside0.mk (blk_below (g := gb121) (o := .cells #[.string ((rd_T73 l0 x17_1).f0), .slice A120_1 ((rd_T73 l0 x17_1).f1).length c120_1] 73 (0, 0)) (by (with_reducible repeat (fail)); exact BK121.out) hb); have n2_ := Aside0.mk (below_step (by repeat ((with_reducible exact HB.out))) hb); clear HO_6; clear BK121; clear HB; have HO_6 := n0_; have BK121 := n1_; have HB := n2_; clear n0_ n1_ n2_; (try clear hb); (try clear hb2); (try clear hk); (try clear hi)))
             go_ret
             exact ⟨by rfl, by repeat ((with_reducible exact HB.out))⟩
       ·rw [if_neg c8] at H
        exact absurd H (by simp)
      ·rw [if_neg c7] at H
       exact absurd H (by simp)
     ·rw [if_neg c6] at H
      exact absurd H (by simp)
    ·rw [if_neg c5] at H
     have c5b0 : decide (x17_1 < (l0.length : Int)) = false := decide_eq_false c5
     clear c5
     have H' := Aside0.mk H
     clear H
     go_wp2
     go_loopg [5, 67] k1 (fun kq v5 v67 w' => ∃ (x5_2 : Int) (x67_2 : Int), v5 = .int .i64 x5_2 ∧ v67 = .int .i64 x67_2 ∧ Aside0 (spec_AreHeaders.l2 kq l0 l1 x5_2 x6_1 l1 (l1.length : Int) x67_2 = some r) ∧ Aside0 (kq ≤ k1) ∧ Aside0 (Kd.R Kd.string 9 w' w.heap.size (fun _ => True) u6 x6_1) ∧ Aside0 (Below w.heap.size w w'))
     case atStart => exact ⟨(x5_1), (0), (by first | rfl | (simp; done) | (simp [*]; done)), (by first | rfl | (simp; done) | (simp [*]; done)), H', ⟨Nat.le_refl _⟩, ⟨by (with_reducible repeat (first | apply Kd.R_alloc | apply Kd.R_drewN | apply Kd.R_drew)); exact HO_6.out⟩, ⟨by repeat ((with_reducible exact HB.out))⟩⟩
     case round =>
      clear H'
      try clear c1
      try clear p1
      try clear q1
      try clear hx1
      try clear c2
      try clear p2
      try clear c3
      try clear c5
      try clear c5b0
      try clear c6
      try clear c6b0
      try clear p6
      try clear c7
      try clear c7b0
      try clear c8
      try clear c12
      try clear p12
      try clear q12
      try clear hx12
      try clear c13
      try clear c13b0
      try clear c14
      try clear c14b0
      try clear c15
      try clear c15b0
      try clear c16
      try clear c17
      try clear c18
      try clear c18b0
      try clear c18b1
      try clear c18b2
      try clear c22
      try clear c22b0
      try clear c22b1
      try clear c26
      try clear c26b0
      try clear c26b1
      try clear hcz10_0
      try clear hcz10_1
      try clear hcz12_0
      try clear hcz12_1
      try clear hcz19_0
      try clear hcz19_1
      try clear hcz21_0
      try clear hcz21_1
      try clear hcz23_0
      try clear hcz23_1
      try clear hcz25_0
      try clear hcz25_1
      try clear hcz27_0
      try clear hcz27_1
      try clear hcz29_0
      try clear hcz29_1
      try clear hcz30_0
      try clear hcz30_1
      try clear hcz32_0
      try clear hcz32_1
      try clear hcz33_0
      try clear hcz33_1
      try clear hfz10_0
      try clear hfz10_1
      try clear hfz12_0
      try clear hfz12_1
      try clear hfz19_0
      try clear hfz19_1
      try clear hfz21_0
      try clear hfz21_1
      try clear hfz23_0
      try clear hfz23_1
      try clear hfz25_0
      try clear hfz25_1
      try clear hfz27_0
      try clear hfz27_1
      try clear hfz29_0
      try clear hfz29_1
      try clear hfz30_0
      try clear hfz30_1
      try clear hfz32_0
      try clear hfz32_1
      try clear hfz33_0
      try clear hfz33_1
      try clear hx120_0
      try clear hx120_1
      try clear hx125_0
      try clear p1
      try clear p12
      try clear p120
      try clear p125
      try clear p2
      try clear p6
      try clear q1
      try clear q12
      try clear q120
      try clear q125
      obtain ⟨x5_2, x67_2, rfl, rfl, HA, HK2, HO_6, HB⟩ := hrel
      cases gk with
      | zero => exact absurd HA.out (by simp [spec_AreHeaders.l2])
      | succ k2 =>
        have H := HA.out
        clear HA
        simp only [spec_AreHeaders.l2] at H
        by_cases c35 : x67_2 < (l1.length : Int)
        ·rw [if_pos c35] at H
         have c35b0 : decide (x67_2 < (l1.length : Int)) = true := decide_eq_true c35
         clear c35
         by_cases c36 : 0 ≤ x67_2
         ·rw [if_pos c36] at H
          have c36b0 : decide (0 ≤ x67_2) = true := decide_eq_true c36
          clear c36
          by_cases c37 : x67_2 < (l1.length : Int)
          ·rw [if_pos c37] at H
           have c37b0 : decide (x67_2 < (l1.length : Int)) = true := decide_eq_true c37
           clear c37
           replace H := Option.bind_eq_some_iff.mp H
           obtain ⟨t130, A380, H⟩ := H
           replace H : (if ((rd_T48 l1 x67_2).f0) < 3 then (some false) else (if ((rd_T48 l1 x67_2).f0) > 6 then (some false) else (if ((rd_T48 l1 x67_2).f3) < 0 then (some false) else (if ((rd_T48 l1 x67_2).f3) > 6 then (some false) else ((spec_IsHeaderName.f k2 t130).bind fun t131 => (if t131 = true then ((spec_IsHeaderName.f k2 ((rd_T48 l1 x67_2).f2)).bind fun t132 => (if t132 = true then (if t130.toList = ([67, 111, 110, 116, 101, 110, 116, 45, 76, 101, 110, 103, 116, 104] : List UInt8) then (some false) else (spec_AreHeaders.l2 k2 l0 l1 (wrap64 (x5_2 + (wrap64 ((wrap64 ((((rd_T48 l1 x67_2).f2).size : Int) + (((rd_T48 l1 x67_2).f1).size : Int))) + (((rd_T48 l1 x67_2).f4).size : Int))))) x6_1 l1 (l1.length : Int) (wrap64 (x67_2 + 1)))) else (some false))) else (some false))))))) = some r := H
           have A38 := Aside0.mk A380
           clear A380
           by_cases c39 : ((rd_T48 l1 x67_2).f0) < 3
           ·rw [if_pos c39] at H
            have c39b0 : decide (((rd_T48 l1 x67_2).f0) < 3) = true := decide_eq_true c39
            clear c39
            obtain rfl := Option.some.inj H
            have p128 : 0 ≤ (x67_2 : Int) := of_decide_eq_true (by first | (with_reducible assumption) | assumption)
            have q128 : x67_2 < (l1.length : Int) := of_decide_eq_true (by first | (with_reducible assumption) | assumption)
            obtain ⟨ad128, e128, hx128_0, hx128_1, hx128_2, hx128_3, hx128_4, hx128_5⟩ := at_T48 HR1.out x67_2 p128 q128
            cases e128
            replace hx128_0 := (HB.out.cell (World.block_lt_of_cell? w _ hx128_0)).trans hx128_0
            replace hx128_1 := (HB.out.cell (World.block_lt_of_cell? w _ hx128_1)).trans hx128_1
            replace hx128_2 := (HB.out.cell (World.block_lt_of_cell? w _ hx128_2)).trans hx128_2
            replace hx128_3 := (HB.out.cell (World.block_lt_of_cell? w _ hx128_3)).trans hx128_3
            replace hx128_4 := (HB.out.cell (World.block_lt_of_cell? w _ hx128_4)).trans hx128_4
            replace hx128_5 := (HB.out.cell (World.block_lt_of_cell? w _ hx128_5)).trans hx128_5
            replace p128 := eq_true p128
            replace q128 := eq_true q128
            go_wp2_with (first | ((with_reducible refine gate_dst (N := 12) rfl ?_); (try (refine gate_guard (by rfl) ?_; dsimp only)); refine box_event ?hg (N := 12) ?hd (cs := #[.int .i64 0, .string (⟨#[]⟩ : ByteArray), .string (⟨#[]⟩ : ByteArray), .int .i64 0, .string (⟨#[]⟩ : ByteArray), .int .i64 0]) (t := 48) ?hr ?_; (case hd => rfl); (case hg => rfl); (case hr => first | (go_simp; done) | (go_simp; rfl)); intro gb129 hg w40 hbox hb; have n0_ := Aside0.mk (Kd.R_below (by (with_reducible repeat (first | apply Kd.R_alloc | apply Kd.R_drewN | apply Kd.R_drew)); exact HO_6.out) hb); have n1_ := Aside0.mk (below_step (by repeat ((with_reducible exact HB.out))) hb); have n2_ := Aside0.mk (hbox); have n3_ := Aside0.mk ((by rw [hg]; exact (below_size (by repeat ((with_reducible exact HB.out)))) : w.heap.size ≤ gb129)); have n4_ := Aside0.mk ((by rw [hg]; exact (below_size (by repeat ((with_reducible exact HB.out)))) : w.heap.size ≤ gb129)); clear HO_6; clear HB; have HO_6 := n0_; have HB := n1_; have BK129 := n2_; have GW129 := n3_; have GE129 := n4_; clear n0_ n1_ n2_ n3_ n4_; clear hb hbox hg; have hcz41_0 : w40.cell? ⟨gb129, 0, none⟩ = some (.int .i64 0) := (blk_cell BK129.out 0).trans rfl; have hcz41_1 : w40.cell? ⟨gb129, 1, none⟩ = some (.string (⟨#[]⟩ : ByteArray)) := (blk_cell BK129.out 1).trans rfl; have hcz41_2 : w40.cell? ⟨gb129, 2, none⟩ = some (.string (⟨#[]⟩ : ByteArray)) := (blk_cell BK129.out 2).trans rfl; have hcz41_3 : w40.cell? ⟨gb129, 3, none⟩ = some (.int .i64 0) := (blk_cell BK129.out 3).trans rfl; have hcz41_4 : w40.cell? ⟨gb129, 4, none⟩ = some (.string (⟨#[]⟩ : ByteArray)) := (blk_cell BK129.out 4).trans rfl; have hcz41_5 : w40.cell? ⟨gb129, 5, none⟩ = some (.int .i64 0) := (blk_cell BK129.out 5).trans rfl; have hfz41_0 := blk_frozen BK129.out 0; have hfz41_1 := blk_frozen BK129.out 1; have hfz41_2 := blk_frozen BK129.out 2; have hfz41_3 := blk_frozen BK129.out 3; have hfz41_4 := blk_frozen BK129.out 4; have hfz41_5 := blk_frozen BK129.out 5) | ((with_reducible refine gate_callee (f := 44) rfl ?_); refine goesL_ (some 85) rfl rfl Tryz.func44 (by kernel_rfl) rfl #[.agg #[.int .i64 ((rd_T48 l1 x67_2).f0), .string ((rd_T48 l1 x67_2).f1), .string ((rd_T48 l1 x67_2).f2), .int .i64 ((rd_T48 l1 x67_2).f3), .string ((rd_T48 l1 x67_2).f4), .int .i64 ((rd_T48 l1 x67_2).f5)]] rfl (by (try simp only [List.map_toArray, List.map_cons, List.map_nil]); rfl) ?_; (with_reducible refine (spec_headerKey.calls ((rd_T48 l1 x67_2).f0) ((rd_T48 l1 x67_2).f1) ((rd_T48 l1 x67_2).f2) ((rd_T48 l1 x67_2).f3) ((rd_T48 l1 x67_2).f4) ((rd_T48 l1 x67_2).f5) t130 _ A38.out).mono ?_); rintro e w42 ⟨rfl, hb⟩; refine ⟨_, rfl, ?_⟩; have n0_ := Aside0.mk (Kd.R_below (by (with_reducible repeat (first | apply Kd.R_alloc | apply Kd.R_drewN | apply Kd.R_drew)); exact (Kd.R_mono (Kd.R_far (p := ⟨gb129, 5, none⟩) (Kd.R_far (p := ⟨gb129, 4, none⟩) (Kd.R_far (p := ⟨gb129, 3, none⟩) (Kd.R_far (p := ⟨gb129, 2, none⟩) (Kd.R_far (p := ⟨gb129, 1, none⟩) (Kd.R_far (p := ⟨gb129, 0, none⟩) (Kd.R_types HO_6.out BK129.out (by decide)) (fun _ hk => hk.2) (.int .i64 ((rd_T48 l1 x67_2).f0))) (fun _ hk => hk.2) (.string ((rd_T48 l1 x67_2).f1))) (fun _ hk => hk.2) (.string ((rd_T48 l1 x67_2).f2))) (fun _ hk => hk.2) (.int .i64 ((rd_T48 l1 x67_2).f3))) (fun _ hk => hk.2) (.string ((rd_T48 l1 x67_2).f4))) (fun _ hk => hk.2) (.int .i64 ((rd_T48 l1 x67_2).f5))) (fun _ h_ => h_.1))) hb); have n1_ := Aside0.mk (blk_below (g := gb129) (o := .cells #[.int .i64 ((rd_T48 l1 x67_2).f0), .string ((rd_T48 l1 x67_2).f1), .string ((rd_T48 l1 x67_2).f2), .int .i64 ((rd_T48 l1 x67_2).f3), .string ((rd_T48 l1 x67_2).f4), .int .i64 ((rd_T48 l1 x67_2).f5)] 48 (0, 0)) (by (with_reducible repeat (fail)); refine blk_put (cs := #[.int .i64 ((rd_T48 l1 x67_2).f0), .string ((rd_T48 l1 x67_2).f1), .string ((rd_T48 l1 x67_2).f2), .int .i64 ((rd_T48 l1 x67_2).f3), .string ((rd_T48 l1 x67_2).f4), .int .i64 0]) ?_ 5 _ rfl; (with_reducible repeat (fail)); refine blk_put (cs := #[.int .i64 ((rd_T48 l1 x67_2).f0), .string ((rd_T48 l1 x67_2).f1), .string ((rd_T48 l1 x67_2).f2), .int .i64 ((rd_T48 l1 x67_2).f3), .string (⟨#[]⟩ : ByteArray), .int .i64 0]) ?_ 4 _ rfl; (with_reducible repeat (fail)); refine blk_put (cs := #[.int .i64 ((rd_T48 l1 x67_2).f0), .string ((rd_T48 l1 x67_2).f1), .string ((rd_T48 l1 x67_2).f2), .int .i64 0, .string (⟨#[]⟩ : ByteArray), .int .i64 0]) ?_ 3 _ rfl; (with_reducible repeat (fail)); refine blk_put (cs := #[.int .i64 ((rd_T48 l1 x67_2).f0), .string ((rd_T48 l1 x67_2).f1), .string (⟨#[]⟩ : ByteArray), .int .i64 0, .string (⟨#[]⟩ : ByteArray), .int .i64 0]) ?_ 2 _ rfl; (with_reducible repeat (fail)); refine blk_put (cs := #[.int .i64 ((rd_T48 l1 x67_2).f0), .string (⟨#[]⟩ : ByteArray), .string (⟨#[]⟩ : ByteArray), .int .i64 0, .string (⟨#[]⟩ : ByteArray), .int .i64 0]) ?_ 1 _ rfl; (with_reducible repeat (fail)); refine blk_put (cs := #[.int .i64 0, .string (⟨#[]⟩ : ByteArray), .string (⟨#[]⟩ : ByteArray), .int .i64 0, .string (⟨#[]⟩ : ByteArray), .int .i64 0]) ?_ 0 _ rfl; (with_reducible repeat (fail)); exact BK129.out) hb); have n2_ := Aside0.mk (below_step (by repeat ((with_reducible first | exact HB.out | refine below_set ?_ GE129.out))) hb); clear HO_6; clear BK129; clear HB; have HO_6 := n0_; have BK129 := n1_; have HB := n2_; clear n0_ n1_ n2_; (try clear hb); (try clear hb2); (try clear hk); (try clear hi); have hcz43_0 : w42.cell? ⟨gb129, 0, none⟩ = some (.int .i64 ((rd_T48 l1 x67_2).f0)) := (blk_cell BK129.out 0).trans rfl; have hcz43_1 : w42.cell? ⟨gb129, 1, none⟩ = some (.string ((rd_T48 l1 x67_2).f1)) := (blk_cell BK129.out 1).trans rfl; have hcz43_2 : w42.cell? ⟨gb129, 2, none⟩ = some (.string ((rd_T48 l1 x67_2).f2)) := (blk_cell BK129.out 2).trans rfl; have hcz43_3 : w42.cell? ⟨gb129, 3, none⟩ = some (.int .i64 ((rd_T48 l1 x67_2).f3)) := (blk_cell BK129.out 3).trans rfl; have hcz43_4 : w42.cell? ⟨gb129, 4, none⟩ = some (.string ((rd_T48 l1 x67_2).f4)) := (blk_cell BK129.out 4).trans rfl; have hcz43_5 : w42.cell? ⟨gb129, 5, none⟩ = some (.int .i64 ((rd_T48 l1 x67_2).f5)) := (blk_cell BK129.out 5).trans rfl; have hfz43_0 := blk_frozen BK129.out 0; have hfz43_1 := blk_frozen BK129.out 1; have hfz43_2 := blk_frozen BK129.out 2; have hfz43_3 := blk_frozen BK129.out 3; have hfz43_4 := blk_frozen BK129.out 4; have hfz43_5 := blk_frozen BK129.out 5))
            go_ret
            exact ⟨by rfl, by repeat ((with_reducible exact HB.out))⟩
           ·rw [if_neg c39] at H
            have c39b0 : decide (((rd_T48 l1 x67_2).f0) < 3) = false := decide_eq_false c39
            clear c39
            by_cases c44 : ((rd_T48 l1 x67_2).f0) > 6
            ·rw [if_pos c44] at H
             have c44b0 : decide (6 < ((rd_T48 l1 x67_2).f0)) = true := decide_eq_true c44
             clear c44
             obtain rfl := Option.some.inj H
             have p128 : 0 ≤ (x67_2 : Int) := of_decide_eq_true (by first | (with_reducible assumption) | assumption)
             have q128 : x67_2 < (l1.length : Int) := of_decide_eq_true (by first | (with_reducible assumption) | assumption)
             obtain ⟨ad128, e128, hx128_0, hx128_1, hx128_2, hx128_3, hx128_4, hx128_5⟩ := at_T48 HR1.out x67_2 p128 q128
             cases e128
             replace hx128_0 := (HB.out.cell (World.block_lt_of_cell? w _ hx128_0)).trans hx128_0
             replace hx128_1 := (HB.out.cell (World.block_lt_of_cell? w _ hx128_1)).trans hx128_1
             replace hx128_2 := (HB.out.cell (World.block_lt_of_cell? w _ hx128_2)).trans hx128_2
             replace hx128_3 := (HB.out.cell (World.block_lt_of_cell? w _ hx128_3)).trans hx128_3
             replace hx128_4 := (HB.out.cell (World.block_lt_of_cell? w _ hx128_4)).trans hx128_4
             replace hx128_5 := (HB.out.cell (World.block_lt_of_cell? w _ hx128_5)).trans hx128_5
             replace p128 := eq_true p128
             replace q128 := eq_true q128
             go_wp2_with (first | ((with_reducible refine gate_dst (N := 12) rfl ?_); (try (refine gate_guard (by rfl) ?_; dsimp only)); refine box_event ?hg (N := 12) ?hd (cs := #[.int .i64 0, .string (⟨#[]⟩ : ByteArray), .string (⟨#[]⟩ : ByteArray), .int .i64 0, .string (⟨#[]⟩ : ByteArray), .int .i64 0]) (t := 48) ?hr ?_; (case hd => rfl); (case hg => rfl); (case hr => first | (go_simp; done) | (go_simp; rfl)); intro gb129 hg w45 hbox hb; have n0_ := Aside0.mk (Kd.R_below (by (with_reducible repeat (first | apply Kd.R_alloc | apply Kd.R_drewN | apply Kd.R_drew)); exact HO_6.out) hb); have n1_ := Aside0.mk (below_step (by repeat ((with_reducible exact HB.out))) hb); have n2_ := Aside0.mk (hbox); have n3_ := Aside0.mk ((by rw [hg]; exact (below_size (by repeat ((with_reducible exact HB.out)))) : w.heap.size ≤ gb129)); have n4_ := Aside0.mk ((by rw [hg]; exact (below_size (by repeat ((with_reducible exact HB.out)))) : w.heap.size ≤ gb129)); clear HO_6; clear HB; have HO_6 := n0_; have HB := n1_; have BK129 := n2_; have GW129 := n3_; have GE129 := n4_; clear n0_ n1_ n2_ n3_ n4_; clear hb hbox hg; have hcz46_0 : w45.cell? ⟨gb129, 0, none⟩ = some (.int .i64 0) := (blk_cell BK129.out 0).trans rfl; have hcz46_1 : w45.cell? ⟨gb129, 1, none⟩ = some (.string (⟨#[]⟩ : ByteArray)) := (blk_cell BK129.out 1).trans rfl; have hcz46_2 : w45.cell? ⟨gb129, 2, none⟩ = some (.string (⟨#[]⟩ : ByteArray)) := (blk_cell BK129.out 2).trans rfl; have hcz46_3 : w45.cell? ⟨gb129, 3, none⟩ = some (.int .i64 0) := (blk_cell BK129.out 3).trans rfl; have hcz46_4 : w45.cell? ⟨gb129, 4, none⟩ = some (.string (⟨#[]⟩ : ByteArray)) := (blk_cell BK129.out 4).trans rfl; have hcz46_5 : w45.cell? ⟨gb129, 5, none⟩ = some (.int .i64 0) := (blk_cell BK129.out 5).trans rfl; have hfz46_0 := blk_frozen BK129.out 0; have hfz46_1 := blk_frozen BK129.out 1; have hfz46_2 := blk_frozen BK129.out 2; have hfz46_3 := blk_frozen BK129.out 3; have hfz46_4 := blk_frozen BK129.out 4; have hfz46_5 := blk_frozen BK129.out 5) | ((with_reducible refine gate_callee (f := 44) rfl ?_); refine goesL_ (some 85) rfl rfl Tryz.func44 (by kernel_rfl) rfl #[.agg #[.int .i64 ((rd_T48 l1 x67_2).f0), .string ((rd_T48 l1 x67_2).f1), .string ((rd_T48 l1 x67_2).f2), .int .i64 ((rd_T48 l1 x67_2).f3), .string ((rd_T48 l1 x67_2).f4), .int .i64 ((rd_T48 l1 x67_2).f5)]] rfl (by (try simp only [List.map_toArray, List.map_cons, List.map_nil]); rfl) ?_; (with_reducible refine (spec_headerKey.calls ((rd_T48 l1 x67_2).f0) ((rd_T48 l1 x67_2).f1) ((rd_T48 l1 x67_2).f2) ((rd_T48 l1 x67_2).f3) ((rd_T48 l1 x67_2).f4) ((rd_T48 l1 x67_2).f5) t130 _ A38.out).mono ?_); rintro e w47 ⟨rfl, hb⟩; refine ⟨_, rfl, ?_⟩; have n0_ := Aside0.mk (Kd.R_below (by (with_reducible repeat (first | apply Kd.R_alloc | apply Kd.R_drewN | apply Kd.R_drew)); exact (Kd.R_mono (Kd.R_far (p := ⟨gb129, 5, none⟩) (Kd.R_far (p := ⟨gb129, 4, none⟩) (Kd.R_far (p := ⟨gb129, 3, none⟩) (Kd.R_far (p := ⟨gb129, 2, none⟩) (Kd.R_far (p := ⟨gb129, 1, none⟩) (Kd.R_far (p := ⟨gb129, 0, none⟩) (Kd.R_types HO_6.out BK129.out (by decide)) (fun _ hk => hk.2) (.int .i64 ((rd_T48 l1 x67_2).f0))) (fun _ hk => hk.2) (.string ((rd_T48 l1 x67_2).f1))) (fun _ hk => hk.2) (.string ((rd_T48 l1 x67_2).f2))) (fun _ hk => hk.2) (.int .i64 ((rd_T48 l1 x67_2).f3))) (fun _ hk => hk.2) (.string ((rd_T48 l1 x67_2).f4))) (fun _ hk => hk.2) (.int .i64 ((rd_T48 l1 x67_2).f5))) (fun _ h_ => h_.1))) hb); have n1_ := Aside0.mk (blk_below (g := gb129) (o := .cells #[.int .i64 ((rd_T48 l1 x67_2).f0), .string ((rd_T48 l1 x67_2).f1), .string ((rd_T48 l1 x67_2).f2), .int .i64 ((rd_T48 l1 x67_2).f3), .string ((rd_T48 l1 x67_2).f4), .int .i64 ((rd_T48 l1 x67_2).f5)] 48 (0, 0)) (by (with_reducible repeat (fail)); refine blk_put (cs := #[.int .i64 ((rd_T48 l1 x67_2).f0), .string ((rd_T48 l1 x67_2).f1), .string ((rd_T48 l1 x67_2).f2), .int .i64 ((rd_T48 l1 x67_2).f3), .string ((rd_T48 l1 x67_2).f4), .int .i64 0]) ?_ 5 _ rfl; (with_reducible repeat (fail)); refine blk_put (cs := #[.int .i64 ((rd_T48 l1 x67_2).f0), .string ((rd_T48 l1 x67_2).f1), .string ((rd_T48 l1 x67_2).f2), .int .i64 ((rd_T48 l1 x67_2).f3), .string (⟨#[]⟩ : ByteArray), .int .i64 0]) ?_ 4 _ rfl; (with_reducible repeat (fail)); refine blk_put (cs := #[.int .i64 ((rd_T48 l1 x67_2).f0), .string ((rd_T48 l1 x67_2).f1), .string ((rd_T48 l1 x67_2).f2), .int .i64 0, .string (⟨#[]⟩ : ByteArray), .int .i64 0]) ?_ 3 _ rfl; (with_reducible repeat (fail)); refine blk_put (cs := #[.int .i64 ((rd_T48 l1 x67_2).f0), .string ((rd_T48 l1 x67_2).f1), .string (⟨#[]⟩ : ByteArray), .int .i64 0, .string (⟨#[]⟩ : ByteArray), .int .i64 0]) ?_ 2 _ rfl; (with_reducible repeat (fail)); refine blk_put (cs := #[.int .i64 ((rd_T48 l1 x67_2).f0), .string (⟨#[]⟩ : ByteArray), .string (⟨#[]⟩ : ByteArray), .int .i64 0, .string (⟨#[]⟩ : ByteArray), .int .i64 0]) ?_ 1 _ rfl; (with_reducible repeat (fail)); refine blk_put (cs := #[.int .i64 0, .string (⟨#[]⟩ : ByteArray), .string (⟨#[]⟩ : ByteArray), .int .i64 0, .string (⟨#[]⟩ : ByteArray), .int .i64 0]) ?_ 0 _ rfl; (with_reducible repeat (fail)); exact BK129.out) hb); have n2_ := Aside0.mk (below_step (by repeat ((with_reducible first | exact HB.out | refine below_set ?_ GE129.out))) hb); clear HO_6; clear BK129; clear HB; have HO_6 := n0_; have BK129 := n1_; have HB := n2_; clear n0_ n1_ n2_; (try clear hb); (try clear hb2); (try clear hk); (try clear hi); have hcz48_0 : w47.cell? ⟨gb129, 0, none⟩ = some (.int .i64 ((rd_T48 l1 x67_2).f0)) := (blk_cell BK129.out 0).trans rfl; have hcz48_1 : w47.cell? ⟨gb129, 1, none⟩ = some (.string ((rd_T48 l1 x67_2).f1)) := (blk_cell BK129.out 1).trans rfl; have hcz48_2 : w47.cell? ⟨gb129, 2, none⟩ = some (.string ((rd_T48 l1 x67_2).f2)) := (blk_cell BK129.out 2).trans rfl; have hcz48_3 : w47.cell? ⟨gb129, 3, none⟩ = some (.int .i64 ((rd_T48 l1 x67_2).f3)) := (blk_cell BK129.out 3).trans rfl; have hcz48_4 : w47.cell? ⟨gb129, 4, none⟩ = some (.string ((rd_T48 l1 x67_2).f4)) := (blk_cell BK129.out 4).trans rfl; have hcz48_5 : w47.cell? ⟨gb129, 5, none⟩ = some (.int .i64 ((rd_T48 l1 x67_2).f5)) := (blk_cell BK129.out 5).trans rfl; have hfz48_0 := blk_frozen BK129.out 0; have hfz48_1 := blk_frozen BK129.out 1; have hfz48_2 := blk_frozen BK129.out 2; have hfz48_3 := blk_frozen BK129.out 3; have hfz48_4 := blk_frozen BK129.out 4; have hfz48_5 := blk_frozen BK129.out 5))
             go_ret
             exact ⟨by rfl, by repeat ((with_reducible exact HB.out))⟩
            ·rw [if_neg c44] at H
             have c44b0 : decide (6 < ((rd_T48 l1 x67_2).f0)) = false := decide_eq_false c44
             clear c44
             by_cases c49 : ((rd_T48 l1 x67_2).f3) < 0
             ·rw [if_pos c49] at H
              have c49b0 : decide (((rd_T48 l1 x67_2).f3) < 0) = true := decide_eq_true c49
              clear c49
              obtain rfl := Option.some.inj H
              have p128 : 0 ≤ (x67_2 : Int) := of_decide_eq_true (by first | (with_reducible assumption) | assumption)
              have q128 : x67_2 < (l1.length : Int) := of_decide_eq_true (by first | (with_reducible assumption) | assumption)
              obtain ⟨ad128, e128, hx128_0, hx128_1, hx128_2, hx128_3, hx128_4, hx128_5⟩ := at_T48 HR1.out x67_2 p128 q128
              cases e128
              replace hx128_0 := (HB.out.cell (World.block_lt_of_cell? w _ hx128_0)).trans hx128_0
              replace hx128_1 := (HB.out.cell (World.block_lt_of_cell? w _ hx128_1)).trans hx128_1
              replace hx128_2 := (HB.out.cell (World.block_lt_of_cell? w _ hx128_2)).trans hx128_2
              replace hx128_3 := (HB.out.cell (World.block_lt_of_cell? w _ hx128_3)).trans hx128_3
              replace hx128_4 := (HB.out.cell (World.block_lt_of_cell? w _ hx128_4)).trans hx128_4
              replace hx128_5 := (HB.out.cell (World.block_lt_of_cell? w _ hx128_5)).trans hx128_5
              replace p128 := eq_true p128
              replace q128 := eq_true q128
              go_wp2_with (first | ((with_reducible refine gate_dst (N := 12) rfl ?_); (try (refine gate_guard (by rfl) ?_; dsimp only)); refine box_event ?hg (N := 12) ?hd (cs := #[.int .i64 0, .string (⟨#[]⟩ : ByteArray), .string (⟨#[]⟩ : ByteArray), .int .i64 0, .string (⟨#[]⟩ : ByteArray), .int .i64 0]) (t := 48) ?hr ?_; (case hd => rfl); (case hg => rfl); (case hr => first | (go_simp; done) | (go_simp; rfl)); intro gb129 hg w50 hbox hb; have n0_ := Aside0.mk (Kd.R_below (by (with_reducible repeat (first | apply Kd.R_alloc | apply Kd.R_drewN | apply Kd.R_drew)); exact HO_6.out) hb); have n1_ := Aside0.mk (below_step (by repeat ((with_reducible exact HB.out))) hb); have n2_ := Aside0.mk (hbox); have n3_ := Aside0.mk ((by rw [hg]; exact (below_size (by repeat ((with_reducible exact HB.out)))) : w.heap.size ≤ gb129)); have n4_ := Aside0.mk ((by rw [hg]; exact (below_size (by repeat ((with_reducible exact HB.out)))) : w.heap.size ≤ gb129)); clear HO_6; clear HB; have HO_6 := n0_; have HB := n1_; have BK129 := n2_; have GW129 := n3_; have GE129 := n4_; clear n0_ n1_ n2_ n3_ n4_; clear hb hbox hg; have hcz51_0 : w50.cell? ⟨gb129, 0, none⟩ = some (.int .i64 0) := (blk_cell BK129.out 0).trans rfl; have hcz51_1 : w50.cell? ⟨gb129, 1, none⟩ = some (.string (⟨#[]⟩ : ByteArray)) := (blk_cell BK129.out 1).trans rfl; have hcz51_2 : w50.cell? ⟨gb129, 2, none⟩ = some (.string (⟨#[]⟩ : ByteArray)) := (blk_cell BK129.out 2).trans rfl; have hcz51_3 : w50.cell? ⟨gb129, 3, none⟩ = some (.int .i64 0) := (blk_cell BK129.out 3).trans rfl; have hcz51_4 : w50.cell? ⟨gb129, 4, none⟩ = some (.string (⟨#[]⟩ : ByteArray)) := (blk_cell BK129.out 4).trans rfl; have hcz51_5 : w50.cell? ⟨gb129, 5, none⟩ = some (.int .i64 0) := (blk_cell BK129.out 5).trans rfl; have hfz51_0 := blk_frozen BK129.out 0; have hfz51_1 := blk_frozen BK129.out 1; have hfz51_2 := blk_frozen BK129.out 2; have hfz51_3 := blk_frozen BK129.out 3; have hfz51_4 := blk_frozen BK129.out 4; have hfz51_5 := blk_frozen BK129.out 5) | ((with_reducible refine gate_callee (f := 44) rfl ?_); refine goesL_ (some 85) rfl rfl Tryz.func44 (by kernel_rfl) rfl #[.agg #[.int .i64 ((rd_T48 l1 x67_2).f0), .string ((rd_T48 l1 x67_2).f1), .string ((rd_T48 l1 x67_2).f2), .int .i64 ((rd_T48 l1 x67_2).f3), .string ((rd_T48 l1 x67_2).f4), .int .i64 ((rd_T48 l1 x67_2).f5)]] rfl (by (try simp only [List.map_toArray, List.map_cons, List.map_nil]); rfl) ?_; (with_reducible refine (spec_headerKey.calls ((rd_T48 l1 x67_2).f0) ((rd_T48 l1 x67_2).f1) ((rd_T48 l1 x67_2).f2) ((rd_T48 l1 x67_2).f3) ((rd_T48 l1 x67_2).f4) ((rd_T48 l1 x67_2).f5) t130 _ A38.out).mono ?_); rintro e w52 ⟨rfl, hb⟩; refine ⟨_, rfl, ?_⟩; have n0_ := Aside0.mk (Kd.R_below (by (with_reducible repeat (first | apply Kd.R_alloc | apply Kd.R_drewN | apply Kd.R_drew)); exact (Kd.R_mono (Kd.R_far (p := ⟨gb129, 5, none⟩) (Kd.R_far (p := ⟨gb129, 4, none⟩) (Kd.R_far (p := ⟨gb129, 3, none⟩) (Kd.R_far (p := ⟨gb129, 2, none⟩) (Kd.R_far (p := ⟨gb129, 1, none⟩) (Kd.R_far (p := ⟨gb129, 0, none⟩) (Kd.R_types HO_6.out BK129.out (by decide)) (fun _ hk => hk.2) (.int .i64 ((rd_T48 l1 x67_2).f0))) (fun _ hk => hk.2) (.string ((rd_T48 l1 x67_2).f1))) (fun _ hk => hk.2) (.string ((rd_T48 l1 x67_2).f2))) (fun _ hk => hk.2) (.int .i64 ((rd_T48 l1 x67_2).f3))) (fun _ hk => hk.2) (.string ((rd_T48 l1 x67_2).f4))) (fun _ hk => hk.2) (.int .i64 ((rd_T48 l1 x67_2).f5))) (fun _ h_ => h_.1))) hb); have n1_ := Aside0.mk (blk_below (g := gb129) (o := .cells #[.int .i64 ((rd_T48 l1 x67_2).f0), .string ((rd_T48 l1 x67_2).f1), .string ((rd_T48 l1 x67_2).f2), .int .i64 ((rd_T48 l1 x67_2).f3), .string ((rd_T48 l1 x67_2).f4), .int .i64 ((rd_T48 l1 x67_2).f5)] 48 (0, 0)) (by (with_reducible repeat (fail)); refine blk_put (cs := #[.int .i64 ((rd_T48 l1 x67_2).f0), .string ((rd_T48 l1 x67_2).f1), .string ((rd_T48 l1 x67_2).f2), .int .i64 ((rd_T48 l1 x67_2).f3), .string ((rd_T48 l1 x67_2).f4), .int .i64 0]) ?_ 5 _ rfl; (with_reducible repeat (fail)); refine blk_put (cs := #[.int .i64 ((rd_T48 l1 x67_2).f0), .string ((rd_T48 l1 x67_2).f1), .string ((rd_T48 l1 x67_2).f2), .int .i64 ((rd_T48 l1 x67_2).f3), .string (⟨#[]⟩ : ByteArray), .int .i64 0]) ?_ 4 _ rfl; (with_reducible repeat (fail)); refine blk_put (cs := #[.int .i64 ((rd_T48 l1 x67_2).f0), .string ((rd_T48 l1 x67_2).f1), .string ((rd_T48 l1 x67_2).f2), .int .i64 0, .string (⟨#[]⟩ : ByteArray), .int .i64 0]) ?_ 3 _ rfl; (with_reducible repeat (fail)); refine blk_put (cs := #[.int .i64 ((rd_T48 l1 x67_2).f0), .string ((rd_T48 l1 x67_2).f1), .string (⟨#[]⟩ : ByteArray), .int .i64 0, .string (⟨#[]⟩ : ByteArray), .int .i64 0]) ?_ 2 _ rfl; (with_reducible repeat (fail)); refine blk_put (cs := #[.int .i64 ((rd_T48 l1 x67_2).f0), .string (⟨#[]⟩ : ByteArray), .string (⟨#[]⟩ : ByteArray), .int .i64 0, .string (⟨#[]⟩ : ByteArray), .int .i64 0]) ?_ 1 _ rfl; (with_reducible repeat (fail)); refine blk_put (cs := #[.int .i64 0, .string (⟨#[]⟩ : ByteArray), .string (⟨#[]⟩ : ByteArray), .int .i64 0, .string (⟨#[]⟩ : ByteArray), .int .i64 0]) ?_ 0 _ rfl; (with_reducible repeat (fail)); exact BK129.out) hb); have n2_ := Aside0.mk (below_step (by repeat ((with_reducible first | exact HB.out | refine below_set ?_ GE129.out))) hb); clear HO_6; clear BK129; clear HB; have HO_6 := n0_; have BK129 := n1_; have HB := n2_; clear n0_ n1_ n2_; (try clear hb); (try clear hb2); (try clear hk); (try clear hi); have hcz53_0 : w52.cell? ⟨gb129, 0, none⟩ = some (.int .i64 ((rd_T48 l1 x67_2).f0)) := (blk_cell BK129.out 0).trans rfl; have hcz53_1 : w52.cell? ⟨gb129, 1, none⟩ = some (.string ((rd_T48 l1 x67_2).f1)) := (blk_cell BK129.out 1).trans rfl; have hcz53_2 : w52.cell? ⟨gb129, 2, none⟩ = some (.string ((rd_T48 l1 x67_2).f2)) := (blk_cell BK129.out 2).trans rfl; have hcz53_3 : w52.cell? ⟨gb129, 3, none⟩ = some (.int .i64 ((rd_T48 l1 x67_2).f3)) := (blk_cell BK129.out 3).trans rfl; have hcz53_4 : w52.cell? ⟨gb129, 4, none⟩ = some (.string ((rd_T48 l1 x67_2).f4)) := (blk_cell BK129.out 4).trans rfl; have hcz53_5 : w52.cell? ⟨gb129, 5, none⟩ = some (.int .i64 ((rd_T48 l1 x67_2).f5)) := (blk_cell BK129.out 5).trans rfl; have hfz53_0 := blk_frozen BK129.out 0; have hfz53_1 := blk_frozen BK129.out 1; have hfz53_2 := blk_frozen BK129.out 2; have hfz53_3 := blk_frozen BK129.out 3; have hfz53_4 := blk_frozen BK129.out 4; have hfz53_5 := blk_frozen BK129.out 5))
              go_ret
              exact ⟨by rfl, by repeat ((with_reducible exact HB.out))⟩
             ·rw [if_neg c49] at H
              have c49b0 : decide (((rd_T48 l1 x67_2).f3) < 0) = false := decide_eq_false c49
              clear c49
              by_cases c54 : ((rd_T48 l1 x67_2).f3) > 6
              ·rw [if_pos c54] at H
               have c54b0 : decide (6 < ((rd_T48 l1 x67_2).f3)) = true := decide_eq_true c54
               clear c54
               obtain rfl := Option.some.inj H
               have p128 : 0 ≤ (x67_2 : Int) := of_decide_eq_true (by first | (with_reducible assumption) | assumption)
               have q128 : x67_2 < (l1.length : Int) := of_decide_eq_true (by first | (with_reducible assumption) | assumption)
               obtain ⟨ad128, e128, hx128_0, hx128_1, hx128_2, hx128_3, hx128_4, hx128_5⟩ := at_T48 HR1.out x67_2 p128 q128
               cases e128
               replace hx128_0 := (HB.out.cell (World.block_lt_of_cell? w _ hx128_0)).trans hx128_0
               replace hx128_1 := (HB.out.cell (World.block_lt_of_cell? w _ hx128_1)).trans hx128_1
               replace hx128_2 := (HB.out.cell (World.block_lt_of_cell? w _ hx128_2)).trans hx128_2
               replace hx128_3 := (HB.out.cell (World.block_lt_of_cell? w _ hx128_3)).trans hx128_3
               replace hx128_4 := (HB.out.cell (World.block_lt_of_cell? w _ hx128_4)).trans hx128_4
               replace hx128_5 := (HB.out.cell (World.block_lt_of_cell? w _ hx128_5)).trans hx128_5
               replace p128 := eq_true p128
               replace q128 := eq_true q128
               go_wp2_with (first | ((with_reducible refine gate_dst (N := 12) rfl ?_); (try (refine gate_guard (by rfl) ?_; dsimp only)); refine box_event ?hg (N := 12) ?hd (cs := #[.int .i64 0, .string (⟨#[]⟩ : ByteArray), .string (⟨#[]⟩ : ByteArray), .int .i64 0, .string (⟨#[]⟩ : ByteArray), .int .i64 0]) (t := 48) ?hr ?_; (case hd => rfl); (case hg => rfl); (case hr => first | (go_simp; done) | (go_simp; rfl)); intro gb129 hg w55 hbox hb; have n0_ := Aside0.mk (Kd.R_below (by (with_reducible repeat (first | apply Kd.R_alloc | apply Kd.R_drewN | apply Kd.R_drew)); exact HO_6.out) hb); have n1_ := Aside0.mk (below_step (by repeat ((with_reducible exact HB.out))) hb); have n2_ := Aside0.mk (hbox); have n3_ := Aside0.mk ((by rw [hg]; exact (below_size (by repeat ((with_reducible exact HB.out)))) : w.heap.size ≤ gb129)); have n4_ := Aside0.mk ((by rw [hg]; exact (below_size (by repeat ((with_reducible exact HB.out)))) : w.heap.size ≤ gb129)); clear HO_6; clear HB; have HO_6 := n0_; have HB := n1_; have BK129 := n2_; have GW129 := n3_; have GE129 := n4_; clear n0_ n1_ n2_ n3_ n4_; clear hb hbox hg; have hcz56_0 : w55.cell? ⟨gb129, 0, none⟩ = some (.int .i64 0) := (blk_cell BK129.out 0).trans rfl; have hcz56_1 : w55.cell? ⟨gb129, 1, none⟩ = some (.string (⟨#[]⟩ : ByteArray)) := (blk_cell BK129.out 1).trans rfl; have hcz56_2 : w55.cell? ⟨gb129, 2, none⟩ = some (.string (⟨#[]⟩ : ByteArray)) := (blk_cell BK129.out 2).trans rfl; have hcz56_3 : w55.cell? ⟨gb129, 3, none⟩ = some (.int .i64 0) := (blk_cell BK129.out 3).trans rfl; have hcz56_4 : w55.cell? ⟨gb129, 4, none⟩ = some (.string (⟨#[]⟩ : ByteArray)) := (blk_cell BK129.out 4).trans rfl; have hcz56_5 : w55.cell? ⟨gb129, 5, none⟩ = some (.int .i64 0) := (blk_cell BK129.out 5).trans rfl; have hfz56_0 := blk_frozen BK129.out 0; have hfz56_1 := blk_frozen BK129.out 1; have hfz56_2 := blk_frozen BK129.out 2; have hfz56_3 := blk_frozen BK129.out 3; have hfz56_4 := blk_frozen BK129.out 4; have hfz56_5 := blk_frozen BK129.out 5) | ((with_reducible refine gate_callee (f := 44) rfl ?_); refine goesL_ (some 85) rfl rfl Tryz.func44 (by kernel_rfl) rfl #[.agg #[.int .i64 ((rd_T48 l1 x67_2).f0), .string ((rd_T48 l1 x67_2).f1), .string ((rd_T48 l1 x67_2).f2), .int .i64 ((rd_T48 l1 x67_2).f3), .string ((rd_T48 l1 x67_2).f4), .int .i64 ((rd_T48 l1 x67_2).f5)]] rfl (by (try simp only [List.map_toArray, List.map_cons, List.map_nil]); rfl) ?_; (with_reducible refine (spec_headerKey.calls ((rd_T48 l1 x67_2).f0) ((rd_T48 l1 x67_2).f1) ((rd_T48 l1 x67_2).f2) ((rd_T48 l1 x67_2).f3) ((rd_T48 l1 x67_2).f4) ((rd_T48 l1 x67_2).f5) t130 _ A38.out).mono ?_); rintro e w57 ⟨rfl, hb⟩; refine ⟨_, rfl, ?_⟩; have n0_ := Aside0.mk (Kd.R_below (by (with_reducible repeat (first | apply Kd.R_alloc | apply Kd.R_drewN | apply Kd.R_drew)); exact (Kd.R_mono (Kd.R_far (p := ⟨gb129, 5, none⟩) (Kd.R_far (p := ⟨gb129, 4, none⟩) (Kd.R_far (p := ⟨gb129, 3, none⟩) (Kd.R_far (p := ⟨gb129, 2, none⟩) (Kd.R_far (p := ⟨gb129, 1, none⟩) (Kd.R_far (p := ⟨gb129, 0, none⟩) (Kd.R_types HO_6.out BK129.out (by decide)) (fun _ hk => hk.2) (.int .i64 ((rd_T48 l1 x67_2).f0))) (fun _ hk => hk.2) (.string ((rd_T48 l1 x67_2).f1))) (fun _ hk => hk.2) (.string ((rd_T48 l1 x67_2).f2))) (fun _ hk => hk.2) (.int .i64 ((rd_T48 l1 x67_2).f3))) (fun _ hk => hk.2) (.string ((rd_T48 l1 x67_2).f4))) (fun _ hk => hk.2) (.int .i64 ((rd_T48 l1 x67_2).f5))) (fun _ h_ => h_.1))) hb); have n1_ := Aside0.mk (blk_below (g := gb129) (o := .cells #[.int .i64 ((rd_T48 l1 x67_2).f0), .string ((rd_T48 l1 x67_2).f1), .string ((rd_T48 l1 x67_2).f2), .int .i64 ((rd_T48 l1 x67_2).f3), .string ((rd_T48 l1 x67_2).f4), .int .i64 ((rd_T48 l1 x67_2).f5)] 48 (0, 0)) (by (with_reducible repeat (fail)); refine blk_put (cs := #[.int .i64 ((rd_T48 l1 x67_2).f0), .string ((rd_T48 l1 x67_2).f1), .string ((rd_T48 l1 x67_2).f2), .int .i64 ((rd_T48 l1 x67_2).f3), .string ((rd_T48 l1 x67_2).f4), .int .i64 0]) ?_ 5 _ rfl; (with_reducible repeat (fail)); refine blk_put (cs := #[.int .i64 ((rd_T48 l1 x67_2).f0), .string ((rd_T48 l1 x67_2).f1), .string ((rd_T48 l1 x67_2).f2), .int .i64 ((rd_T48 l1 x67_2).f3), .string (⟨#[]⟩ : ByteArray), .int .i64 0]) ?_ 4 _ rfl; (with_reducible repeat (fail)); refine blk_put (cs := #[.int .i64 ((rd_T48 l1 x67_2).f0), .string ((rd_T48 l1 x67_2).f1), .string ((rd_T48 l1 x67_2).f2), .int .i64 0, .string (⟨#[]⟩ : ByteArray), .int .i64 0]) ?_ 3 _ rfl; (with_reducible repeat (fail)); refine blk_put (cs := #[.int .i64 ((rd_T48 l1 x67_2).f0), .string ((rd_T48 l1 x67_2).f1), .string (⟨#[]⟩ : ByteArray), .int .i64 0, .string (⟨#[]⟩ : ByteArray), .int .i64 0]) ?_ 2 _ rfl; (with_reducible repeat (fail)); refine blk_put (cs := #[.int .i64 ((rd_T48 l1 x67_2).f0), .string (⟨#[]⟩ : ByteArray), .string (⟨#[]⟩ : ByteArray), .int .i64 0, .string (⟨#[]⟩ : ByteArray), .int .i64 0]) ?_ 1 _ rfl; (with_reducible repeat (fail)); refine blk_put (cs := #[.int .i64 0, .string (⟨#[]⟩ : ByteArray), .string (⟨#[]⟩ : ByteArray), .int .i64 0, .string (⟨#[]⟩ : ByteArray), .int .i64 0]) ?_ 0 _ rfl; (with_reducible repeat (fail)); exact BK129.out) hb); have n2_ := Aside0.mk (below_step (by repeat ((with_reducible first | exact HB.out | refine below_set ?_ GE129.out))) hb); clear HO_6; clear BK129; clear HB; have HO_6 := n0_; have BK129 := n1_; have HB := n2_; clear n0_ n1_ n2_; (try clear hb); (try clear hb2); (try clear hk); (try clear hi); have hcz58_0 : w57.cell? ⟨gb129, 0, none⟩ = some (.int .i64 ((rd_T48 l1 x67_2).f0)) := (blk_cell BK129.out 0).trans rfl; have hcz58_1 : w57.cell? ⟨gb129, 1, none⟩ = some (.string ((rd_T48 l1 x67_2).f1)) := (blk_cell BK129.out 1).trans rfl; have hcz58_2 : w57.cell? ⟨gb129, 2, none⟩ = some (.string ((rd_T48 l1 x67_2).f2)) := (blk_cell BK129.out 2).trans rfl; have hcz58_3 : w57.cell? ⟨gb129, 3, none⟩ = some (.int .i64 ((rd_T48 l1 x67_2).f3)) := (blk_cell BK129.out 3).trans rfl; have hcz58_4 : w57.cell? ⟨gb129, 4, none⟩ = some (.string ((rd_T48 l1 x67_2).f4)) := (blk_cell BK129.out 4).trans rfl; have hcz58_5 : w57.cell? ⟨gb129, 5, none⟩ = some (.int .i64 ((rd_T48 l1 x67_2).f5)) := (blk_cell BK129.out 5).trans rfl; have hfz58_0 := blk_frozen BK129.out 0; have hfz58_1 := blk_frozen BK129.out 1; have hfz58_2 := blk_frozen BK129.out 2; have hfz58_3 := blk_frozen BK129.out 3; have hfz58_4 := blk_frozen BK129.out 4; have hfz58_5 := blk_frozen BK129.out 5))
               go_ret
               exact ⟨by rfl, by repeat ((with_reducible exact HB.out))⟩
              ·rw [if_neg c54] at H
               have c54b0 : decide (6 < ((rd_T48 l1 x67_2).f3)) = false := decide_eq_false c54
               clear c54
               replace H := Option.bind_eq_some_iff.mp H
               obtain ⟨t131, A590, H⟩ := H
               replace H : (if t131 = true then ((spec_IsHeaderName.f k2 ((rd_T48 l1 x67_2).f2)).bind fun t132 => (if t132 = true then (if t130.toList = ([67, 111, 110, 116, 101, 110, 116, 45, 76, 101, 110, 103, 116, 104] : List UInt8) then (some false) else (spec_AreHeaders.l2 k2 l0 l1 (wrap64 (x5_2 + (wrap64 ((wrap64 ((((rd_T48 l1 x67_2).f2).size : Int) + (((rd_T48 l1 x67_2).f1).size : Int))) + (((rd_T48 l1 x67_2).f4).size : Int))))) x6_1 l1 (l1.length : Int) (wrap64 (x67_2 + 1)))) else (some false))) else (some false)) = some r := H
               have A59 := Aside0.mk A590
               clear A590
               by_cases c60 : t131 = true
               ·subst c60
                have H1 : ((spec_IsHeaderName.f k2 ((rd_T48 l1 x67_2).f2)).bind fun t132 => (if t132 = true then (if t130.toList = ([67, 111, 110, 116, 101, 110, 116, 45, 76, 101, 110, 103, 116, 104] : List UInt8) then (some false) else (spec_AreHeaders.l2 k2 l0 l1 (wrap64 (x5_2 + (wrap64 ((wrap64 ((((rd_T48 l1 x67_2).f2).size : Int) + (((rd_T48 l1 x67_2).f1).size : Int))) + (((rd_T48 l1 x67_2).f4).size : Int))))) x6_1 l1 (l1.length : Int) (wrap64 (x67_2 + 1)))) else (some false))) = some r := by rw [if_pos rfl] at H; exact H
                clear H
                have H := H1
                clear H1
                replace H := Option.bind_eq_some_iff.mp H
                obtain ⟨t132, A610, H⟩ := H
                replace H : (if t132 = true then (if t130.toList = ([67, 111, 110, 116, 101, 110, 116, 45, 76, 101, 110, 103, 116, 104] : List UInt8) then (some false) else (spec_AreHeaders.l2 k2 l0 l1 (wrap64 (x5_2 + (wrap64 ((wrap64 ((((rd_T48 l1 x67_2).f2).size : Int) + (((rd_T48 l1 x67_2).f1).size : Int))) + (((rd_T48 l1 x67_2).f4).size : Int))))) x6_1 l1 (l1.length : Int) (wrap64 (x67_2 + 1)))) else (some false)) = some r := H
                have A61 := Aside0.mk A610
                clear A610
                by_cases c62 : t132 = true
                ·subst c62
                 have H1 : (if t130.toList = ([67, 111, 110, 116, 101, 110, 116, 45, 76, 101, 110, 103, 116, 104] : List UInt8) then (some false) else (spec_AreHeaders.l2 k2 l0 l1 (wrap64 (x5_2 + (wrap64 ((wrap64 ((((rd_T48 l1 x67_2).f2).size : Int) + (((rd_T48 l1 x67_2).f1).size : Int))) + (((rd_T48 l1 x67_2).f4).size : Int))))) x6_1 l1 (l1.length : Int) (wrap64 (x67_2 + 1)))) = some r := by rw [if_pos rfl] at H; exact H
                 clear H
                 have H := H1
                 clear H1
                 by_cases c63 : t130.toList = ([67, 111, 110, 116, 101, 110, 116, 45, 76, 101, 110, 103, 116, 104] : List UInt8)
                 ·rw [if_pos c63] at H
                  have c63b0 : (t130.toList == ([67, 111, 110, 116, 101, 110, 116, 45, 76, 101, 110, 103, 116, 104] : List UInt8)) = true := beq_iff_eq.mpr c63
                  have c63b1 : (t130.toList != ([67, 111, 110, 116, 101, 110, 116, 45, 76, 101, 110, 103, 116, 104] : List UInt8)) = false := bne_eq_false_iff_eq.mpr c63
                  clear c63
                  obtain rfl := Option.some.inj H
                  have p128 : 0 ≤ (x67_2 : Int) := of_decide_eq_true (by first | (with_reducible assumption) | assumption)
                  have q128 : x67_2 < (l1.length : Int) := of_decide_eq_true (by first | (with_reducible assumption) | assumption)
                  obtain ⟨ad128, e128, hx128_0, hx128_1, hx128_2, hx128_3, hx128_4, hx128_5⟩ := at_T48 HR1.out x67_2 p128 q128
                  cases e128
                  replace hx128_0 := (HB.out.cell (World.block_lt_of_cell? w _ hx128_0)).trans hx128_0
                  replace hx128_1 := (HB.out.cell (World.block_lt_of_cell? w _ hx128_1)).trans hx128_1
                  replace hx128_2 := (HB.out.cell (World.block_lt_of_cell? w _ hx128_2)).trans hx128_2
                  replace hx128_3 := (HB.out.cell (World.block_lt_of_cell? w _ hx128_3)).trans hx128_3
                  replace hx128_4 := (HB.out.cell (World.block_lt_of_cell? w _ hx128_4)).trans hx128_4
                  replace hx128_5 := (HB.out.cell (World.block_lt_of_cell? w _ hx128_5)).trans hx128_5
                  replace p128 := eq_true p128
                  replace q128 := eq_true q128
                  go_wp2_with (first | ((with_reducible refine gate_dst (N := 12) rfl ?_); (try (refine gate_guard (by rfl) ?_; dsimp only)); refine box_event ?hg (N := 12) ?hd (cs := #[.int .i64 0, .string (⟨#[]⟩ : ByteArray), .string (⟨#[]⟩ : ByteArray), .int .i64 0, .string (⟨#[]⟩ : ByteArray), .int .i64 0]) (t := 48) ?hr ?_; (case hd => rfl); (case hg => rfl); (case hr => first | (go_simp; done) | (go_simp; rfl)); intro gb129 hg w64 hbox hb; have n0_ := Aside0.mk (Kd.R_below (by (with_reducible repeat (first | apply Kd.R_alloc | apply Kd.R_drewN | apply Kd.R_drew)); exact HO_6.out) hb); have n1_ := Aside0.mk (below_step (by repeat ((with_reducible exact HB.out))) hb); have n2_ := Aside0.mk (hbox); have n3_ := Aside0.mk ((by rw [hg]; exact (below_size (by repeat ((with_reducible exact HB.out)))) : w.heap.size ≤ gb129)); have n4_ := Aside0.mk ((by rw [hg]; exact (below_size (by repeat ((with_reducible exact HB.out)))) : w.heap.size ≤ gb129)); clear HO_6; clear HB; have HO_6 := n0_; have HB := n1_; have BK129 := n2_; have GW129 := n3_; have GE129 := n4_; clear n0_ n1_ n2_ n3_ n4_; clear hb hbox hg; have hcz65_0 : w64.cell? ⟨gb129, 0, none⟩ = some (.int .i64 0) := (blk_cell BK129.out 0).trans rfl; have hcz65_1 : w64.cell? ⟨gb129, 1, none⟩ = some (.string (⟨#[]⟩ : ByteArray)) := (blk_cell BK129.out 1).trans rfl; have hcz65_2 : w64.cell? ⟨gb129, 2, none⟩ = some (.string (⟨#[]⟩ : ByteArray)) := (blk_cell BK129.out 2).trans rfl; have hcz65_3 : w64.cell? ⟨gb129, 3, none⟩ = some (.int .i64 0) := (blk_cell BK129.out 3).trans rfl; have hcz65_4 : w64.cell? ⟨gb129, 4, none⟩ = some (.string (⟨#[]⟩ : ByteArray)) := (blk_cell BK129.out 4).trans rfl; have hcz65_5 : w64.cell? ⟨gb129, 5, none⟩ = some (.int .i64 0) := (blk_cell BK129.out 5).trans rfl; have hfz65_0 := blk_frozen BK129.out 0; have hfz65_1 := blk_frozen BK129.out 1; have hfz65_2 := blk_frozen BK129.out 2; have hfz65_3 := blk_frozen BK129.out 3; have hfz65_4 := blk_frozen BK129.out 4; have hfz65_5 := blk_frozen BK129.out 5) | ((with_reducible refine gate_callee (f := 44) rfl ?_); refine goesL_ (some 85) rfl rfl Tryz.func44 (by kernel_rfl) rfl #[.agg #[.int .i64 ((rd_T48 l1 x67_2).f0), .string ((rd_T48 l1 x67_2).f1), .string ((rd_T48 l1 x67_2).f2), .int .i64 ((rd_T48 l1 x67_2).f3), .string ((rd_T48 l1 x67_2).f4), .int .i64 ((rd_T48 l1 x67_2).f5)]] rfl (by (try simp only [List.map_toArray, List.map_cons, List.map_nil]); rfl) ?_; (with_reducible refine (spec_headerKey.calls ((rd_T48 l1 x67_2).f0) ((rd_T48 l1 x67_2).f1) ((rd_T48 l1 x67_2).f2) ((rd_T48 l1 x67_2).f3) ((rd_T48 l1 x67_2).f4) ((rd_T48 l1 x67_2).f5) t130 _ A38.out).mono ?_); rintro e w66 ⟨rfl, hb⟩; refine ⟨_, rfl, ?_⟩; have n0_ := Aside0.mk (Kd.R_below (by (with_reducible repeat (first | apply Kd.R_alloc | apply Kd.R_drewN | apply Kd.R_drew)); exact (Kd.R_mono (Kd.R_far (p := ⟨gb129, 5, none⟩) (Kd.R_far (p := ⟨gb129, 4, none⟩) (Kd.R_far (p := ⟨gb129, 3, none⟩) (Kd.R_far (p := ⟨gb129, 2, none⟩) (Kd.R_far (p := ⟨gb129, 1, none⟩) (Kd.R_far (p := ⟨gb129, 0, none⟩) (Kd.R_types HO_6.out BK129.out (by decide)) (fun _ hk => hk.2) (.int .i64 ((rd_T48 l1 x67_2).f0))) (fun _ hk => hk.2) (.string ((rd_T48 l1 x67_2).f1))) (fun _ hk => hk.2) (.string ((rd_T48 l1 x67_2).f2))) (fun _ hk => hk.2) (.int .i64 ((rd_T48 l1 x67_2).f3))) (fun _ hk => hk.2) (.string ((rd_T48 l1 x67_2).f4))) (fun _ hk => hk.2) (.int .i64 ((rd_T48 l1 x67_2).f5))) (fun _ h_ => h_.1))) hb); have n1_ := Aside0.mk (blk_below (g := gb129) (o := .cells #[.int .i64 ((rd_T48 l1 x67_2).f0), .string ((rd_T48 l1 x67_2).f1), .string ((rd_T48 l1 x67_2).f2), .int .i64 ((rd_T48 l1 x67_2).f3), .string ((rd_T48 l1 x67_2).f4), .int .i64 ((rd_T48 l1 x67_2).f5)] 48 (0, 0)) (by (with_reducible repeat (fail)); refine blk_put (cs := #[.int .i64 ((rd_T48 l1 x67_2).f0), .string ((rd_T48 l1 x67_2).f1), .string ((rd_T48 l1 x67_2).f2), .int .i64 ((rd_T48 l1 x67_2).f3), .string ((rd_T48 l1 x67_2).f4), .int .i64 0]) ?_ 5 _ rfl; (with_reducible repeat (fail)); refine blk_put (cs := #[.int .i64 ((rd_T48 l1 x67_2).f0), .string ((rd_T48 l1 x67_2).f1), .string ((rd_T48 l1 x67_2).f2), .int .i64 ((rd_T48 l1 x67_2).f3), .string (⟨#[]⟩ : ByteArray), .int .i64 0]) ?_ 4 _ rfl; (with_reducible repeat (fail)); refine blk_put (cs := #[.int .i64 ((rd_T48 l1 x67_2).f0), .string ((rd_T48 l1 x67_2).f1), .string ((rd_T48 l1 x67_2).f2), .int .i64 0, .string (⟨#[]⟩ : ByteArray), .int .i64 0]) ?_ 3 _ rfl; (with_reducible repeat (fail)); refine blk_put (cs := #[.int .i64 ((rd_T48 l1 x67_2).f0), .string ((rd_T48 l1 x67_2).f1), .string (⟨#[]⟩ : ByteArray), .int .i64 0, .string (⟨#[]⟩ : ByteArray), .int .i64 0]) ?_ 2 _ rfl; (with_reducible repeat (fail)); refine blk_put (cs := #[.int .i64 ((rd_T48 l1 x67_2).f0), .string (⟨#[]⟩ : ByteArray), .string (⟨#[]⟩ : ByteArray), .int .i64 0, .string (⟨#[]⟩ : ByteArray), .int .i64 0]) ?_ 1 _ rfl; (with_reducible repeat (fail)); refine blk_put (cs := #[.int .i64 0, .string (⟨#[]⟩ : ByteArray), .string (⟨#[]⟩ : ByteArray), .int .i64 0, .string (⟨#[]⟩ : ByteArray), .int .i64 0]) ?_ 0 _ rfl; (with_reducible repeat (fail)); exact BK129.out) hb); have n2_ := Aside0.mk (below_step (by repeat ((with_reducible first | exact HB.out | refine below_set ?_ GE129.out))) hb); clear HO_6; clear BK129; clear HB; have HO_6 := n0_; have BK129 := n1_; have HB := n2_; clear n0_ n1_ n2_; (try clear hb); (try clear hb2); (try clear hk); (try clear hi); have hcz67_0 : w66.cell? ⟨gb129, 0, none⟩ = some (.int .i64 ((rd_T48 l1 x67_2).f0)) := (blk_cell BK129.out 0).trans rfl; have hcz67_1 : w66.cell? ⟨gb129, 1, none⟩ = some (.string ((rd_T48 l1 x67_2).f1)) := (blk_cell BK129.out 1).trans rfl; have hcz67_2 : w66.cell? ⟨gb129, 2, none⟩ = some (.string ((rd_T48 l1 x67_2).f2)) := (blk_cell BK129.out 2).trans rfl; have hcz67_3 : w66.cell? ⟨gb129, 3, none⟩ = some (.int .i64 ((rd_T48 l1 x67_2).f3)) := (blk_cell BK129.out 3).trans rfl; have hcz67_4 : w66.cell? ⟨gb129, 4, none⟩ = some (.string ((rd_T48 l1 x67_2).f4)) := (blk_cell BK129.out 4).trans rfl; have hcz67_5 : w66.cell? ⟨gb129, 5, none⟩ = some (.int .i64 ((rd_T48 l1 x67_2).f5)) := (blk_cell BK129.out 5).trans rfl; have hfz67_0 := blk_frozen BK129.out 0; have hfz67_1 := blk_frozen BK129.out 1; have hfz67_2 := blk_frozen BK129.out 2; have hfz67_3 := blk_frozen BK129.out 3; have hfz67_4 := blk_frozen BK129.out 4; have hfz67_5 := blk_frozen BK129.out 5) | (go_at_call 35; (with_reducible refine (spec_IsHeaderName.calls k2 t130 true _ A59.out).mono ?_); rintro e w68 ⟨rfl, hb⟩; have n0_ := Aside0.mk (Kd.R_below (by (with_reducible repeat (first | apply Kd.R_alloc | apply Kd.R_drewN | apply Kd.R_drew)); exact HO_6.out) hb); have n1_ := Aside0.mk (blk_below (g := gb129) (o := .cells #[.int .i64 ((rd_T48 l1 x67_2).f0), .string ((rd_T48 l1 x67_2).f1), .string ((rd_T48 l1 x67_2).f2), .int .i64 ((rd_T48 l1 x67_2).f3), .string ((rd_T48 l1 x67_2).f4), .int .i64 ((rd_T48 l1 x67_2).f5)] 48 (0, 0)) (by (with_reducible repeat (fail)); exact BK129.out) hb); have n2_ := Aside0.mk (below_step (by repeat ((with_reducible exact HB.out))) hb); clear HO_6; clear BK129; clear HB; have HO_6 := n0_; have BK129 := n1_; have HB := n2_; clear n0_ n1_ n2_; (try clear hb); (try clear hb2); (try clear hk); (try clear hi); have hcz69_0 : w68.cell? ⟨gb129, 0, none⟩ = some (.int .i64 ((rd_T48 l1 x67_2).f0)) := (blk_cell BK129.out 0).trans rfl; have hcz69_1 : w68.cell? ⟨gb129, 1, none⟩ = some (.string ((rd_T48 l1 x67_2).f1)) := (blk_cell BK129.out 1).trans rfl; have hcz69_2 : w68.cell? ⟨gb129, 2, none⟩ = some (.string ((rd_T48 l1 x67_2).f2)) := (blk_cell BK129.out 2).trans rfl; have hcz69_3 : w68.cell? ⟨gb129, 3, none⟩ = some (.int .i64 ((rd_T48 l1 x67_2).f3)) := (blk_cell BK129.out 3).trans rfl; have hcz69_4 : w68.cell? ⟨gb129, 4, none⟩ = some (.string ((rd_T48 l1 x67_2).f4)) := (blk_cell BK129.out 4).trans rfl; have hcz69_5 : w68.cell? ⟨gb129, 5, none⟩ = some (.int .i64 ((rd_T48 l1 x67_2).f5)) := (blk_cell BK129.out 5).trans rfl; have hfz69_0 := blk_frozen BK129.out 0; have hfz69_1 := blk_frozen BK129.out 1; have hfz69_2 := blk_frozen BK129.out 2; have hfz69_3 := blk_frozen BK129.out 3; have hfz69_4 := blk_frozen BK129.out 4; have hfz69_5 := blk_frozen BK129.out 5) | (go_at_call 35; (with_reducible refine (spec_IsHeaderName.calls k2 ((rd_T48 l1 x67_2).f2) true _ A61.out).mono ?_); rintro e w70 ⟨rfl, hb⟩; have n0_ := Aside0.mk (Kd.R_below (by (with_reducible repeat (first | apply Kd.R_alloc | apply Kd.R_drewN | apply Kd.R_drew)); exact HO_6.out) hb); have n1_ := Aside0.mk (blk_below (g := gb129) (o := .cells #[.int .i64 ((rd_T48 l1 x67_2).f0), .string ((rd_T48 l1 x67_2).f1), .string ((rd_T48 l1 x67_2).f2), .int .i64 ((rd_T48 l1 x67_2).f3), .string ((rd_T48 l1 x67_2).f4), .int .i64 ((rd_T48 l1 x67_2).f5)] 48 (0, 0)) (by (with_reducible repeat (fail)); exact BK129.out) hb); have n2_ := Aside0.mk (below_step (by repeat ((with_reducible exact HB.out))) hb); clear HO_6; clear BK129; clear HB; have HO_6 := n0_; have BK129 := n1_; have HB := n2_; clear n0_ n1_ n2_; (try clear hb); (try clear hb2); (try clear hk); (try clear hi)))
                  go_ret
                  exact ⟨by rfl, by repeat ((with_reducible exact HB.out))⟩
                 ·rw [if_neg c63] at H
                  have c63b0 : (t130.toList == ([67, 111, 110, 116, 101, 110, 116, 45, 76, 101, 110, 103, 116, 104] : List UInt8)) = false := beq_eq_false_iff_ne.mpr c63
                  have c63b1 : (t130.toList != ([67, 111, 110, 116, 101, 110, 116, 45, 76, 101, 110, 103, 116, 104] : List UInt8)) = true := bne_iff_ne.mpr c63
                  have H' := Aside0.mk H
                  clear H
                  have p128 : 0 ≤ (x67_2 : Int) := of_decide_eq_true (by first | (with_reducible assumption) | assumption)
                  have q128 : x67_2 < (l1.length : Int) := of_decide_eq_true (by first | (with_reducible assumption) | assumption)
                  obtain ⟨ad128, e128, hx128_0, hx128_1, hx128_2, hx128_3, hx128_4, hx128_5⟩ := at_T48 HR1.out x67_2 p128 q128
                  cases e128
                  replace hx128_0 := (HB.out.cell (World.block_lt_of_cell? w _ hx128_0)).trans hx128_0
                  replace hx128_1 := (HB.out.cell (World.block_lt_of_cell? w _ hx128_1)).trans hx128_1
                  replace hx128_2 := (HB.out.cell (World.block_lt_of_cell? w _ hx128_2)).trans hx128_2
                  replace hx128_3 := (HB.out.cell (World.block_lt_of_cell? w _ hx128_3)).trans hx128_3
                  replace hx128_4 := (HB.out.cell (World.block_lt_of_cell? w _ hx128_4)).trans hx128_4
                  replace hx128_5 := (HB.out.cell (World.block_lt_of_cell? w _ hx128_5)).trans hx128_5
                  replace p128 := eq_true p128
                  replace q128 := eq_true q128
                  go_wp2_with (first | ((with_reducible refine gate_dst (N := 12) rfl ?_); (try (refine gate_guard (by rfl) ?_; dsimp only)); refine box_event ?hg (N := 12) ?hd (cs := #[.int .i64 0, .string (⟨#[]⟩ : ByteArray), .string (⟨#[]⟩ : ByteArray), .int .i64 0, .string (⟨#[]⟩ : ByteArray), .int .i64 0]) (t := 48) ?hr ?_; (case hd => rfl); (case hg => rfl); (case hr => first | (go_simp; done) | (go_simp; rfl)); intro gb129 hg w71 hbox hb; have n0_ := Aside0.mk (Kd.R_below (by (with_reducible repeat (first | apply Kd.R_alloc | apply Kd.R_drewN | apply Kd.R_drew)); exact HO_6.out) hb); have n1_ := Aside0.mk (below_step (by repeat ((with_reducible exact HB.out))) hb); have n2_ := Aside0.mk (hbox); have n3_ := Aside0.mk ((by rw [hg]; exact (below_size (by repeat ((with_reducible exact HB.out)))) : w.heap.size ≤ gb129)); have n4_ := Aside0.mk ((by rw [hg]; exact (below_size (by repeat ((with_reducible exact HB.out)))) : w.heap.size ≤ gb129)); clear HO_6; clear HB; have HO_6 := n0_; have HB := n1_; have BK129 := n2_; have GW129 := n3_; have GE129 := n4_; clear n0_ n1_ n2_ n3_ n4_; clear hb hbox hg; have hcz72_0 : w71.cell? ⟨gb129, 0, none⟩ = some (.int .i64 0) := (blk_cell BK129.out 0).trans rfl; have hcz72_1 : w71.cell? ⟨gb129, 1, none⟩ = some (.string (⟨#[]⟩ : ByteArray)) := (blk_cell BK129.out 1).trans rfl; have hcz72_2 : w71.cell? ⟨gb129, 2, none⟩ = some (.string (⟨#[]⟩ : ByteArray)) := (blk_cell BK129.out 2).trans rfl; have hcz72_3 : w71.cell? ⟨gb129, 3, none⟩ = some (.int .i64 0) := (blk_cell BK129.out 3).trans rfl; have hcz72_4 : w71.cell? ⟨gb129, 4, none⟩ = some (.string (⟨#[]⟩ : ByteArray)) := (blk_cell BK129.out 4).trans rfl; have hcz72_5 : w71.cell? ⟨gb129, 5, none⟩ = some (.int .i64 0) := (blk_cell BK129.out 5).trans rfl; have hfz72_0 := blk_frozen BK129.out 0; have hfz72_1 := blk_frozen BK129.out 1; have hfz72_2 := blk_frozen BK129.out 2; have hfz72_3 := blk_frozen BK129.out 3; have hfz72_4 := blk_frozen BK129.out 4; have hfz72_5 := blk_frozen BK129.out 5) | ((with_reducible refine gate_callee (f := 44) rfl ?_); refine goesL_ (some 85) rfl rfl Tryz.func44 (by kernel_rfl) rfl #[.agg #[.int .i64 ((rd_T48 l1 x67_2).f0), .string ((rd_T48 l1 x67_2).f1), .string ((rd_T48 l1 x67_2).f2), .int .i64 ((rd_T48 l1 x67_2).f3), .string ((rd_T48 l1 x67_2).f4), .int .i64 ((rd_T48 l1 x67_2).f5)]] rfl (by (try simp only [List.map_toArray, List.map_cons, List.map_nil]); rfl) ?_; (with_reducible refine (spec_headerKey.calls ((rd_T48 l1 x67_2).f0) ((rd_T48 l1 x67_2).f1) ((rd_T48 l1 x67_2).f2) ((rd_T48 l1 x67_2).f3) ((rd_T48 l1 x67_2).f4) ((rd_T48 l1 x67_2).f5) t130 _ A38.out).mono ?_); rintro e w73 ⟨rfl, hb⟩; refine ⟨_, rfl, ?_⟩; have n0_ := Aside0.mk (Kd.R_below (by (with_reducible repeat (first | apply Kd.R_alloc | apply Kd.R_drewN | apply Kd.R_drew)); exact (Kd.R_mono (Kd.R_far (p := ⟨gb129, 5, none⟩) (Kd.R_far (p := ⟨gb129, 4, none⟩) (Kd.R_far (p := ⟨gb129, 3, none⟩) (Kd.R_far (p := ⟨gb129, 2, none⟩) (Kd.R_far (p := ⟨gb129, 1, none⟩) (Kd.R_far (p := ⟨gb129, 0, none⟩) (Kd.R_types HO_6.out BK129.out (by decide)) (fun _ hk => hk.2) (.int .i64 ((rd_T48 l1 x67_2).f0))) (fun _ hk => hk.2) (.string ((rd_T48 l1 x67_2).f1))) (fun _ hk => hk.2) (.string ((rd_T48 l1 x67_2).f2))) (fun _ hk => hk.2) (.int .i64 ((rd_T48 l1 x67_2).f3))) (fun _ hk => hk.2) (.string ((rd_T48 l1 x67_2).f4))) (fun _ hk => hk.2) (.int .i64 ((rd_T48 l1 x67_2).f5))) (fun _ h_ => h_.1))) hb); have n1_ := Aside0.mk (blk_below (g := gb129) (o := .cells #[.int .i64 ((rd_T48 l1 x67_2).f0), .string ((rd_T48 l1 x67_2).f1), .string ((rd_T48 l1 x67_2).f2), .int .i64 ((rd_T48 l1 x67_2).f3), .string ((rd_T48 l1 x67_2).f4), .int .i64 ((rd_T48 l1 x67_2).f5)] 48 (0, 0)) (by (with_reducible repeat (fail)); refine blk_put (cs := #[.int .i64 ((rd_T48 l1 x67_2).f0), .string ((rd_T48 l1 x67_2).f1), .string ((rd_T48 l1 x67_2).f2), .int .i64 ((rd_T48 l1 x67_2).f3), .string ((rd_T48 l1 x67_2).f4), .int .i64 0]) ?_ 5 _ rfl; (with_reducible repeat (fail)); refine blk_put (cs := #[.int .i64 ((rd_T48 l1 x67_2).f0), .string ((rd_T48 l1 x67_2).f1), .string ((rd_T48 l1 x67_2).f2), .int .i64 ((rd_T48 l1 x67_2).f3), .string (⟨#[]⟩ : ByteArray), .int .i64 0]) ?_ 4 _ rfl; (with_reducible repeat (fail)); refine blk_put (cs := #[.int .i64 ((rd_T48 l1 x67_2).f0), .string ((rd_T48 l1 x67_2).f1), .string ((rd_T48 l1 x67_2).f2), .int .i64 0, .string (⟨#[]⟩ : ByteArray), .int .i64 0]) ?_ 3 _ rfl; (with_reducible repeat (fail)); refine blk_put (cs := #[.int .i64 ((rd_T48 l1 x67_2).f0), .string ((rd_T48 l1 x67_2).f1), .string (⟨#[]⟩ : ByteArray), .int .i64 0, .string (⟨#[]⟩ : ByteArray), .int .i64 0]) ?_ 2 _ rfl; (with_reducible repeat (fail)); refine blk_put (cs := #[.int .i64 ((rd_T48 l1 x67_2).f0), .string (⟨#[]⟩ : ByteArray), .string (⟨#[]⟩ : ByteArray), .int .i64 0, .string (⟨#[]⟩ : ByteArray), .int .i64 0]) ?_ 1 _ rfl; (with_reducible repeat (fail)); refine blk_put (cs := #[.int .i64 0, .string (⟨#[]⟩ : ByteArray), .string (⟨#[]⟩ : ByteArray), .int .i64 0, .string (⟨#[]⟩ : ByteArray), .int .i64 0]) ?_ 0 _ rfl; (with_reducible repeat (fail)); exact BK129.out) hb); have n2_ := Aside0.mk (below_step (by repeat ((with_reducible first | exact HB.out | refine below_set ?_ GE129.out))) hb); clear HO_6; clear BK129; clear HB; have HO_6 := n0_; have BK129 := n1_; have HB := n2_; clear n0_ n1_ n2_; (try clear hb); (try clear hb2); (try clear hk); (try clear hi); have hcz74_0 : w73.cell? ⟨gb129, 0, none⟩ = some (.int .i64 ((rd_T48 l1 x67_2).f0)) := (blk_cell BK129.out 0).trans rfl; have hcz74_1 : w73.cell? ⟨gb129, 1, none⟩ = some (.string ((rd_T48 l1 x67_2).f1)) := (blk_cell BK129.out 1).trans rfl; have hcz74_2 : w73.cell? ⟨gb129, 2, none⟩ = some (.string ((rd_T48 l1 x67_2).f2)) := (blk_cell BK129.out 2).trans rfl; have hcz74_3 : w73.cell? ⟨gb129, 3, none⟩ = some (.int .i64 ((rd_T48 l1 x67_2).f3)) := (blk_cell BK129.out 3).trans rfl; have hcz74_4 : w73.cell? ⟨gb129, 4, none⟩ = some (.string ((rd_T48 l1 x67_2).f4)) := (blk_cell BK129.out 4).trans rfl; have hcz74_5 : w73.cell? ⟨gb129, 5, none⟩ = some (.int .i64 ((rd_T48 l1 x67_2).f5)) := (blk_cell BK129.out 5).trans rfl; have hfz74_0 := blk_frozen BK129.out 0; have hfz74_1 := blk_frozen BK129.out 1; have hfz74_2 := blk_frozen BK129.out 2; have hfz74_3 := blk_frozen BK129.out 3; have hfz74_4 := blk_frozen BK129.out 4; have hfz74_5 := blk_frozen BK129.out 5) | (go_at_call 35; (with_reducible refine (spec_IsHeaderName.calls k2 t130 true _ A59.out).mono ?_); rintro e w75 ⟨rfl, hb⟩; have n0_ := Aside0.mk (Kd.R_below (by (with_reducible repeat (first | apply Kd.R_alloc | apply Kd.R_drewN | apply Kd.R_drew)); exact HO_6.out) hb); have n1_ := Aside0.mk (blk_below (g := gb129) (o := .cells #[.int .i64 ((rd_T48 l1 x67_2).f0), .string ((rd_T48 l1 x67_2).f1), .string ((rd_T48 l1 x67_2).f2), .int .i64 ((rd_T48 l1 x67_2).f3), .string ((rd_T48 l1 x67_2).f4), .int .i64 ((rd_T48 l1 x67_2).f5)] 48 (0, 0)) (by (with_reducible repeat (fail)); exact BK129.out) hb); have n2_ := Aside0.mk (below_step (by repeat ((with_reducible exact HB.out))) hb); clear HO_6; clear BK129; clear HB; have HO_6 := n0_; have BK129 := n1_; have HB := n2_; clear n0_ n1_ n2_; (try clear hb); (try clear hb2); (try clear hk); (try clear hi); have hcz76_0 : w75.cell? ⟨gb129, 0, none⟩ = some (.int .i64 ((rd_T48 l1 x67_2).f0)) := (blk_cell BK129.out 0).trans rfl; have hcz76_1 : w75.cell? ⟨gb129, 1, none⟩ = some (.string ((rd_T48 l1 x67_2).f1)) := (blk_cell BK129.out 1).trans rfl; have hcz76_2 : w75.cell? ⟨gb129, 2, none⟩ = some (.string ((rd_T48 l1 x67_2).f2)) := (blk_cell BK129.out 2).trans rfl; have hcz76_3 : w75.cell? ⟨gb129, 3, none⟩ = some (.int .i64 ((rd_T48 l1 x67_2).f3)) := (blk_cell BK129.out 3).trans rfl; have hcz76_4 : w75.cell? ⟨gb129, 4, none⟩ = some (.string ((rd_T48 l1 x67_2).f4)) := (blk_cell BK129.out 4).trans rfl; have hcz76_5 : w75.cell? ⟨gb129, 5, none⟩ = some (.int .i64 ((rd_T48 l1 x67_2).f5)) := (blk_cell BK129.out 5).trans rfl; have hfz76_0 := blk_frozen BK129.out 0; have hfz76_1 := blk_frozen BK129.out 1; have hfz76_2 := blk_frozen BK129.out 2; have hfz76_3 := blk_frozen BK129.out 3; have hfz76_4 := blk_frozen BK129.out 4; have hfz76_5 := blk_frozen BK129.out 5) | (go_at_call 35; (with_reducible refine (spec_IsHeaderName.calls k2 ((rd_T48 l1 x67_2).f2) true _ A61.out).mono ?_); rintro e w77 ⟨rfl, hb⟩; have n0_ := Aside0.mk (Kd.R_below (by (with_reducible repeat (first | apply Kd.R_alloc | apply Kd.R_drewN | apply Kd.R_drew)); exact HO_6.out) hb); have n1_ := Aside0.mk (blk_below (g := gb129) (o := .cells #[.int .i64 ((rd_T48 l1 x67_2).f0), .string ((rd_T48 l1 x67_2).f1), .string ((rd_T48 l1 x67_2).f2), .int .i64 ((rd_T48 l1 x67_2).f3), .string ((rd_T48 l1 x67_2).f4), .int .i64 ((rd_T48 l1 x67_2).f5)] 48 (0, 0)) (by (with_reducible repeat (fail)); exact BK129.out) hb); have n2_ := Aside0.mk (below_step (by repeat ((with_reducible exact HB.out))) hb); clear HO_6; clear BK129; clear HB; have HO_6 := n0_; have BK129 := n1_; have HB := n2_; clear n0_ n1_ n2_; (try clear hb); (try clear hb2); (try clear hk); (try clear hi)))
                  go_roundg k2
                  case measure => have := HK1.out; have := HK2.out; omega
                  case rel => exact ⟨(wrap64 (x5_2 + (wrap64 ((wrap64 ((((rd_T48 l1 x67_2).f2).size : Int) + (((rd_T48 l1 x67_2).f1).size : Int))) + (((rd_T48 l1 x67_2).f4).size : Int))))), (wrap64 (x67_2 + 1)), (by first | rfl | (simp; done) | (simp [*]; done)), (by first | rfl | (simp; done) | (simp [*]; done)), H', ⟨by have := HK1.out; have := HK2.out; omega⟩, ⟨by (with_reducible repeat (first | apply Kd.R_alloc | apply Kd.R_drewN | apply Kd.R_drew)); exact HO_6.out⟩, ⟨by repeat ((with_reducible exact HB.out))⟩⟩
                ·replace c62 := Bool.eq_false_iff.mpr c62
                 subst c62
                 have H1 : (some false) = some r := by rw [if_neg (show ¬ (false = true) by decide)] at H; exact H
                 clear H
                 have H := H1
                 clear H1
                 obtain rfl := Option.some.inj H
                 have p128 : 0 ≤ (x67_2 : Int) := of_decide_eq_true (by first | (with_reducible assumption) | assumption)
                 have q128 : x67_2 < (l1.length : Int) := of_decide_eq_true (by first | (with_reducible assumption) | assumption)
                 obtain ⟨ad128, e128, hx128_0, hx128_1, hx128_2, hx128_3, hx128_4, hx128_5⟩ := at_T48 HR1.out x67_2 p128 q128
                 cases e128
                 replace hx128_0 := (HB.out.cell (World.block_lt_of_cell? w _ hx128_0)).trans hx128_0
                 replace hx128_1 := (HB.out.cell (World.block_lt_of_cell? w _ hx128_1)).trans hx128_1
                 replace hx128_2 := (HB.out.cell (World.block_lt_of_cell? w _ hx128_2)).trans hx128_2
                 replace hx128_3 := (HB.out.cell (World.block_lt_of_cell? w _ hx128_3)).trans hx128_3
                 replace hx128_4 := (HB.out.cell (World.block_lt_of_cell? w _ hx128_4)).trans hx128_4
                 replace hx128_5 := (HB.out.cell (World.block_lt_of_cell? w _ hx128_5)).trans hx128_5
                 replace p128 := eq_true p128
                 replace q128 := eq_true q128
                 go_wp2_with (first | ((with_reducible refine gate_dst (N := 12) rfl ?_); (try (refine gate_guard (by rfl) ?_; dsimp only)); refine box_event ?hg (N := 12) ?hd (cs := #[.int .i64 0, .string (⟨#[]⟩ : ByteArray), .string (⟨#[]⟩ : ByteArray), .int .i64 0, .string (⟨#[]⟩ : ByteArray), .int .i64 0]) (t := 48) ?hr ?_; (case hd => rfl); (case hg => rfl); (case hr => first | (go_simp; done) | (go_simp; rfl)); intro gb129 hg w78 hbox hb; have n0_ := Aside0.mk (Kd.R_below (by (with_reducible repeat (first | apply Kd.R_alloc | apply Kd.R_drewN | apply Kd.R_drew)); exact HO_6.out) hb); have n1_ := Aside0.mk (below_step (by repeat ((with_reducible exact HB.out))) hb); have n2_ := Aside0.mk (hbox); have n3_ := Aside0.mk ((by rw [hg]; exact (below_size (by repeat ((with_reducible exact HB.out)))) : w.heap.size ≤ gb129)); have n4_ := Aside0.mk ((by rw [hg]; exact (below_size (by repeat ((with_reducible exact HB.out)))) : w.heap.size ≤ gb129)); clear HO_6; clear HB; have HO_6 := n0_; have HB := n1_; have BK129 := n2_; have GW129 := n3_; have GE129 := n4_; clear n0_ n1_ n2_ n3_ n4_; clear hb hbox hg; have hcz79_0 : w78.cell? ⟨gb129, 0, none⟩ = some (.int .i64 0) := (blk_cell BK129.out 0).trans rfl; have hcz79_1 : w78.cell? ⟨gb129, 1, none⟩ = some (.string (⟨#[]⟩ : ByteArray)) := (blk_cell BK129.out 1).trans rfl; have hcz79_2 : w78.cell? ⟨gb129, 2, none⟩ = some (.string (⟨#[]⟩ : ByteArray)) := (blk_cell BK129.out 2).trans rfl; have hcz79_3 : w78.cell? ⟨gb129, 3, none⟩ = some (.int .i64 0) := (blk_cell BK129.out 3).trans rfl; have hcz79_4 : w78.cell? ⟨gb129, 4, none⟩ = some (.string (⟨#[]⟩ : ByteArray)) := (blk_cell BK129.out 4).trans rfl; have hcz79_5 : w78.cell? ⟨gb129, 5, none⟩ = some (.int .i64 0) := (blk_cell BK129.out 5).trans rfl; have hfz79_0 := blk_frozen BK129.out 0; have hfz79_1 := blk_frozen BK129.out 1; have hfz79_2 := blk_frozen BK129.out 2; have hfz79_3 := blk_frozen BK129.out 3; have hfz79_4 := blk_frozen BK129.out 4; have hfz79_5 := blk_frozen BK129.out 5) | ((with_reducible refine gate_callee (f := 44) rfl ?_); refine goesL_ (some 85) rfl rfl Tryz.func44 (by kernel_rfl) rfl #[.agg #[.int .i64 ((rd_T48 l1 x67_2).f0), .string ((rd_T48 l1 x67_2).f1), .string ((rd_T48 l1 x67_2).f2), .int .i64 ((rd_T48 l1 x67_2).f3), .string ((rd_T48 l1 x67_2).f4), .int .i64 ((rd_T48 l1 x67_2).f5)]] rfl (by (try simp only [List.map_toArray, List.map_cons, List.map_nil]); rfl) ?_; (with_reducible refine (spec_headerKey.calls ((rd_T48 l1 x67_2).f0) ((rd_T48 l1 x67_2).f1) ((rd_T48 l1 x67_2).f2) ((rd_T48 l1 x67_2).f3) ((rd_T48 l1 x67_2).f4) ((rd_T48 l1 x67_2).f5) t130 _ A38.out).mono ?_); rintro e w80 ⟨rfl, hb⟩; refine ⟨_, rfl, ?_⟩; have n0_ := Aside0.mk (Kd.R_below (by (with_reducible repeat (first | apply Kd.R_alloc | apply Kd.R_drewN | apply Kd.R_drew)); exact (Kd.R_mono (Kd.R_far (p := ⟨gb129, 5, none⟩) (Kd.R_far (p := ⟨gb129, 4, none⟩) (Kd.R_far (p := ⟨gb129, 3, none⟩) (Kd.R_far (p := ⟨gb129, 2, none⟩) (Kd.R_far (p := ⟨gb129, 1, none⟩) (Kd.R_far (p := ⟨gb129, 0, none⟩) (Kd.R_types HO_6.out BK129.out (by decide)) (fun _ hk => hk.2) (.int .i64 ((rd_T48 l1 x67_2).f0))) (fun _ hk => hk.2) (.string ((rd_T48 l1 x67_2).f1))) (fun _ hk => hk.2) (.string ((rd_T48 l1 x67_2).f2))) (fun _ hk => hk.2) (.int .i64 ((rd_T48 l1 x67_2).f3))) (fun _ hk => hk.2) (.string ((rd_T48 l1 x67_2).f4))) (fun _ hk => hk.2) (.int .i64 ((rd_T48 l1 x67_2).f5))) (fun _ h_ => h_.1))) hb); have n1_ := Aside0.mk (blk_below (g := gb129) (o := .cells #[.int .i64 ((rd_T48 l1 x67_2).f0), .string ((rd_T48 l1 x67_2).f1), .string ((rd_T48 l1 x67_2).f2), .int .i64 ((rd_T48 l1 x67_2).f3), .string ((rd_T48 l1 x67_2).f4), .int .i64 ((rd_T48 l1 x67_2).f5)] 48 (0, 0)) (by (with_reducible repeat (fail)); refine blk_put (cs := #[.int .i64 ((rd_T48 l1 x67_2).f0), .string ((rd_T48 l1 x67_2).f1), .string ((rd_T48 l1 x67_2).f2), .int .i64 ((rd_T48 l1 x67_2).f3), .string ((rd_T48 l1 x67_2).f4), .int .i64 0]) ?_ 5 _ rfl; (with_reducible repeat (fail)); refine blk_put (cs := #[.int .i64 ((rd_T48 l1 x67_2).f0), .string ((rd_T48 l1 x67_2).f1), .string ((rd_T48 l1 x67_2).f2), .int .i64 ((rd_T48 l1 x67_2).f3), .string (⟨#[]⟩ : ByteArray), .int .i64 0]) ?_ 4 _ rfl; (with_reducible repeat (fail)); refine blk_put (cs := #[.int .i64 ((rd_T48 l1 x67_2).f0), .string ((rd_T48 l1 x67_2).f1), .string ((rd_T48 l1 x67_2).f2), .int .i64 0, .string (⟨#[]⟩ : ByteArray), .int .i64 0]) ?_ 3 _ rfl; (with_reducible repeat (fail)); refine blk_put (cs := #[.int .i64 ((rd_T48 l1 x67_2).f0), .string ((rd_T48 l1 x67_2).f1), .string (⟨#[]⟩ : ByteArray), .int .i64 0, .string (⟨#[]⟩ : ByteArray), .int .i64 0]) ?_ 2 _ rfl; (with_reducible repeat (fail)); refine blk_put (cs := #[.int .i64 ((rd_T48 l1 x67_2).f0), .string (⟨#[]⟩ : ByteArray), .string (⟨#[]⟩ : ByteArray), .int .i64 0, .string (⟨#[]⟩ : ByteArray), .int .i64 0]) ?_ 1 _ rfl; (with_reducible repeat (fail)); refine blk_put (cs := #[.int .i64 0, .string (⟨#[]⟩ : ByteArray), .string (⟨#[]⟩ : ByteArray), .int .i64 0, .string (⟨#[]⟩ : ByteArray), .int .i64 0]) ?_ 0 _ rfl; (with_reducible repeat (fail)); exact BK129.out) hb); have n2_ := Aside0.mk (below_step (by repeat ((with_reducible first | exact HB.out | refine below_set ?_ GE129.out))) hb); clear HO_6; clear BK129; clear HB; have HO_6 := n0_; have BK129 := n1_; have HB := n2_; clear n0_ n1_ n2_; (try clear hb); (try clear hb2); (try clear hk); (try clear hi); have hcz81_0 : w80.cell? ⟨gb129, 0, none⟩ = some (.int .i64 ((rd_T48 l1 x67_2).f0)) := (blk_cell BK129.out 0).trans rfl; have hcz81_1 : w80.cell? ⟨gb129, 1, none⟩ = some (.string ((rd_T48 l1 x67_2).f1)) := (blk_cell BK129.out 1).trans rfl; have hcz81_2 : w80.cell? ⟨gb129, 2, none⟩ = some (.string ((rd_T48 l1 x67_2).f2)) := (blk_cell BK129.out 2).trans rfl; have hcz81_3 : w80.cell? ⟨gb129, 3, none⟩ = some (.int .i64 ((rd_T48 l1 x67_2).f3)) := (blk_cell BK129.out 3).trans rfl; have hcz81_4 : w80.cell? ⟨gb129, 4, none⟩ = some (.string ((rd_T48 l1 x67_2).f4)) := (blk_cell BK129.out 4).trans rfl; have hcz81_5 : w80.cell? ⟨gb129, 5, none⟩ = some (.int .i64 ((rd_T48 l1 x67_2).f5)) := (blk_cell BK129.out 5).trans rfl; have hfz81_0 := blk_frozen BK129.out 0; have hfz81_1 := blk_frozen BK129.out 1; have hfz81_2 := blk_frozen BK129.out 2; have hfz81_3 := blk_frozen BK129.out 3; have hfz81_4 := blk_frozen BK129.out 4; have hfz81_5 := blk_frozen BK129.out 5) | (go_at_call 35; (with_reducible refine (spec_IsHeaderName.calls k2 t130 true _ A59.out).mono ?_); rintro e w82 ⟨rfl, hb⟩; have n0_ := Aside0.mk (Kd.R_below (by (with_reducible repeat (first | apply Kd.R_alloc | apply Kd.R_drewN | apply Kd.R_drew)); exact HO_6.out) hb); have n1_ := Aside0.mk (blk_below (g := gb129) (o := .cells #[.int .i64 ((rd_T48 l1 x67_2).f0), .string ((rd_T48 l1 x67_2).f1), .string ((rd_T48 l1 x67_2).f2), .int .i64 ((rd_T48 l1 x67_2).f3), .string ((rd_T48 l1 x67_2).f4), .int .i64 ((rd_T48 l1 x67_2).f5)] 48 (0, 0)) (by (with_reducible repeat (fail)); exact BK129.out) hb); have n2_ := Aside0.mk (below_step (by repeat ((with_reducible exact HB.out))) hb); clear HO_6; clear BK129; clear HB; have HO_6 := n0_; have BK129 := n1_; have HB := n2_; clear n0_ n1_ n2_; (try clear hb); (try clear hb2); (try clear hk); (try clear hi); have hcz83_0 : w82.cell? ⟨gb129, 0, none⟩ = some (.int .i64 ((rd_T48 l1 x67_2).f0)) := (blk_cell BK129.out 0).trans rfl; have hcz83_1 : w82.cell? ⟨gb129, 1, none⟩ = some (.string ((rd_T48 l1 x67_2).f1)) := (blk_cell BK129.out 1).trans rfl; have hcz83_2 : w82.cell? ⟨gb129, 2, none⟩ = some (.string ((rd_T48 l1 x67_2).f2)) := (blk_cell BK129.out 2).trans rfl; have hcz83_3 : w82.cell? ⟨gb129, 3, none⟩ = some (.int .i64 ((rd_T48 l1 x67_2).f3)) := (blk_cell BK129.out 3).trans rfl; have hcz83_4 : w82.cell? ⟨gb129, 4, none⟩ = some (.string ((rd_T48 l1 x67_2).f4)) := (blk_cell BK129.out 4).trans rfl; have hcz83_5 : w82.cell? ⟨gb129, 5, none⟩ = some (.int .i64 ((rd_T48 l1 x67_2).f5)) := (blk_cell BK129.out 5).trans rfl; have hfz83_0 := blk_frozen BK129.out 0; have hfz83_1 := blk_frozen BK129.out 1; have hfz83_2 := blk_frozen BK129.out 2; have hfz83_3 := blk_frozen BK129.out 3; have hfz83_4 := blk_frozen BK129.out 4; have hfz83_5 := blk_frozen BK129.out 5) | (go_at_call 35; (with_reducible refine (spec_IsHeaderName.calls k2 ((rd_T48 l1 x67_2).f2) false _ A61.out).mono ?_); rintro e w84 ⟨rfl, hb⟩; have n0_ := Aside0.mk (Kd.R_below (by (with_reducible repeat (first | apply Kd.R_alloc | apply Kd.R_drewN | apply Kd.R_drew)); exact HO_6.out) hb); have n1_ := Aside0.mk (blk_below (g := gb129) (o := .cells #[.int .i64 ((rd_T48 l1 x67_2).f0), .string ((rd_T48 l1 x67_2).f1), .string ((rd_T48 l1 x67_2).f2), .int .i64 ((rd_T48 l1 x67_2).f3), .string ((rd_T48 l1 x67_2).f4), .int .i64 ((rd_T48 l1 x67_2).f5)] 48 (0, 0)) (by (with_reducible repeat (fail)); exact BK129.out) hb); have n2_ := Aside0.mk (below_step (by repeat ((with_reducible exact HB.out))) hb); clear HO_6; clear BK129; clear HB; have HO_6 := n0_; have BK129 := n1_; have HB := n2_; clear n0_ n1_ n2_; (try clear hb); (try clear hb2); (try clear hk); (try clear hi)))
                 go_ret
                 exact ⟨by rfl, by repeat ((with_reducible exact HB.out))⟩
               ·replace c60 := Bool.eq_false_iff.mpr c60
                subst c60
                have H1 : (some false) = some r := by rw [if_neg (show ¬ (false = true) by decide)] at H; exact H
                clear H
                have H := H1
                clear H1
                obtain rfl := Option.some.inj H
                have p128 : 0 ≤ (x67_2 : Int) := of_decide_eq_true (by first | (with_reducible assumption) | assumption)
                have q128 : x67_2 < (l1.length : Int) := of_decide_eq_true (by first | (with_reducible assumption) | assumption)
                obtain ⟨ad128, e128, hx128_0, hx128_1, hx128_2, hx128_3, hx128_4, hx128_5⟩ := at_T48 HR1.out x67_2 p128 q128
                cases e128
                replace hx128_0 := (HB.out.cell (World.block_lt_of_cell? w _ hx128_0)).trans hx128_0
                replace hx128_1 := (HB.out.cell (World.block_lt_of_cell? w _ hx128_1)).trans hx128_1
                replace hx128_2 := (HB.out.cell (World.block_lt_of_cell? w _ hx128_2)).trans hx128_2
                replace hx128_3 := (HB.out.cell (World.block_lt_of_cell? w _ hx128_3)).trans hx128_3
                replace hx128_4 := (HB.out.cell (World.block_lt_of_cell? w _ hx128_4)).trans hx128_4
                replace hx128_5 := (HB.out.cell (World.block_lt_of_cell? w _ hx128_5)).trans hx128_5
                replace p128 := eq_true p128
                replace q128 := eq_true q128
                go_wp2_with (first | ((with_reducible refine gate_dst (N := 12) rfl ?_); (try (refine gate_guard (by rfl) ?_; dsimp only)); refine box_event ?hg (N := 12) ?hd (cs := #[.int .i64 0, .string (⟨#[]⟩ : ByteArray), .string (⟨#[]⟩ : ByteArray), .int .i64 0, .string (⟨#[]⟩ : ByteArray), .int .i64 0]) (t := 48) ?hr ?_; (case hd => rfl); (case hg => rfl); (case hr => first | (go_simp; done) | (go_simp; rfl)); intro gb129 hg w85 hbox hb; have n0_ := Aside0.mk (Kd.R_below (by (with_reducible repeat (first | apply Kd.R_alloc | apply Kd.R_drewN | apply Kd.R_drew)); exact HO_6.out) hb); have n1_ := Aside0.mk (below_step (by repeat ((with_reducible exact HB.out))) hb); have n2_ := Aside0.mk (hbox); have n3_ := Aside0.mk ((by rw [hg]; exact (below_size (by repeat ((with_reducible exact HB.out)))) : w.heap.size ≤ gb129)); have n4_ := Aside0.mk ((by rw [hg]; exact (below_size (by repeat ((with_reducible exact HB.out)))) : w.heap.size ≤ gb129)); clear HO_6; clear HB; have HO_6 := n0_; have HB := n1_; have BK129 := n2_; have GW129 := n3_; have GE129 := n4_; clear n0_ n1_ n2_ n3_ n4_; clear hb hbox hg; have hcz86_0 : w85.cell? ⟨gb129, 0, none⟩ = some (.int .i64 0) := (blk_cell BK129.out 0).trans rfl; have hcz86_1 : w85.cell? ⟨gb129, 1, none⟩ = some (.string (⟨#[]⟩ : ByteArray)) := (blk_cell BK129.out 1).trans rfl; have hcz86_2 : w85.cell? ⟨gb129, 2, none⟩ = some (.string (⟨#[]⟩ : ByteArray)) := (blk_cell BK129.out 2).trans rfl; have hcz86_3 : w85.cell? ⟨gb129, 3, none⟩ = some (.int .i64 0) := (blk_cell BK129.out 3).trans rfl; have hcz86_4 : w85.cell? ⟨gb129, 4, none⟩ = some (.string (⟨#[]⟩ : ByteArray)) := (blk_cell BK129.out 4).trans rfl; have hcz86_5 : w85.cell? ⟨gb129, 5, none⟩ = some (.int .i64 0) := (blk_cell BK129.out 5).trans rfl; have hfz86_0 := blk_frozen BK129.out 0; have hfz86_1 := blk_frozen BK129.out 1; have hfz86_2 := blk_frozen BK129.out 2; have hfz86_3 := blk_frozen BK129.out 3; have hfz86_4 := blk_frozen BK129.out 4; have hfz86_5 := blk_frozen BK129.out 5) | ((with_reducible refine gate_callee (f := 44) rfl ?_); refine goesL_ (some 85) rfl rfl Tryz.func44 (by kernel_rfl) rfl #[.agg #[.int .i64 ((rd_T48 l1 x67_2).f0), .string ((rd_T48 l1 x67_2).f1), .string ((rd_T48 l1 x67_2).f2), .int .i64 ((rd_T48 l1 x67_2).f3), .string ((rd_T48 l1 x67_2).f4), .int .i64 ((rd_T48 l1 x67_2).f5)]] rfl (by (try simp only [List.map_toArray, List.map_cons, List.map_nil]); rfl) ?_; (with_reducible refine (spec_headerKey.calls ((rd_T48 l1 x67_2).f0) ((rd_T48 l1 x67_2).f1) ((rd_T48 l1 x67_2).f2) ((rd_T48 l1 x67_2).f3) ((rd_T48 l1 x67_2).f4) ((rd_T48 l1 x67_2).f5) t130 _ A38.out).mono ?_); rintro e w87 ⟨rfl, hb⟩; refine ⟨_, rfl, ?_⟩; have n0_ := Aside0.mk (Kd.R_below (by (with_reducible repeat (first | apply Kd.R_alloc | apply Kd.R_drewN | apply Kd.R_drew)); exact (Kd.R_mono (Kd.R_far (p := ⟨gb129, 5, none⟩) (Kd.R_far (p := ⟨gb129, 4, none⟩) (Kd.R_far (p := ⟨gb129, 3, none⟩) (Kd.R_far (p := ⟨gb129, 2, none⟩) (Kd.R_far (p := ⟨gb129, 1, none⟩) (Kd.R_far (p := ⟨gb129, 0, none⟩) (Kd.R_types HO_6.out BK129.out (by decide)) (fun _ hk => hk.2) (.int .i64 ((rd_T48 l1 x67_2).f0))) (fun _ hk => hk.2) (.string ((rd_T48 l1 x67_2).f1))) (fun _ hk => hk.2) (.string ((rd_T48 l1 x67_2).f2))) (fun _ hk => hk.2) (.int .i64 ((rd_T48 l1 x67_2).f3))) (fun _ hk => hk.2) (.string ((rd_T48 l1 x67_2).f4))) (fun _ hk => hk.2) (.int .i64 ((rd_T48 l1 x67_2).f5))) (fun _ h_ => h_.1))) hb); have n1_ := Aside0.mk (blk_below (g := gb129) (o := .cells #[.int .i64 ((rd_T48 l1 x67_2).f0), .string ((rd_T48 l1 x67_2).f1), .string ((rd_T48 l1 x67_2).f2), .int .i64 ((rd_T48 l1 x67_2).f3), .string ((rd_T48 l1 x67_2).f4), .int .i64 ((rd_T48 l1 x67_2).f5)] 48 (0, 0)) (by (with_reducible repeat (fail)); refine blk_put (cs := #[.int .i64 ((rd_T48 l1 x67_2).f0), .string ((rd_T48 l1 x67_2).f1), .string ((rd_T48 l1 x67_2).f2), .int .i64 ((rd_T48 l1 x67_2).f3), .string ((rd_T48 l1 x67_2).f4), .int .i64 0]) ?_ 5 _ rfl; (with_reducible repeat (fail)); refine blk_put (cs := #[.int .i64 ((rd_T48 l1 x67_2).f0), .string ((rd_T48 l1 x67_2).f1), .string ((rd_T48 l1 x67_2).f2), .int .i64 ((rd_T48 l1 x67_2).f3), .string (⟨#[]⟩ : ByteArray), .int .i64 0]) ?_ 4 _ rfl; (with_reducible repeat (fail)); refine blk_put (cs := #[.int .i64 ((rd_T48 l1 x67_2).f0), .string ((rd_T48 l1 x67_2).f1), .string ((rd_T48 l1 x67_2).f2), .int .i64 0, .string (⟨#[]⟩ : ByteArray), .int .i64 0]) ?_ 3 _ rfl; (with_reducible repeat (fail)); refine blk_put (cs := #[.int .i64 ((rd_T48 l1 x67_2).f0), .string ((rd_T48 l1 x67_2).f1), .string (⟨#[]⟩ : ByteArray), .int .i64 0, .string (⟨#[]⟩ : ByteArray), .int .i64 0]) ?_ 2 _ rfl; (with_reducible repeat (fail)); refine blk_put (cs := #[.int .i64 ((rd_T48 l1 x67_2).f0), .string (⟨#[]⟩ : ByteArray), .string (⟨#[]⟩ : ByteArray), .int .i64 0, .string (⟨#[]⟩ : ByteArray), .int .i64 0]) ?_ 1 _ rfl; (with_reducible repeat (fail)); refine blk_put (cs := #[.int .i64 0, .string (⟨#[]⟩ : ByteArray), .string (⟨#[]⟩ : ByteArray), .int .i64 0, .string (⟨#[]⟩ : ByteArray), .int .i64 0]) ?_ 0 _ rfl; (with_reducible repeat (fail)); exact BK129.out) hb); have n2_ := Aside0.mk (below_step (by repeat ((with_reducible first | exact HB.out | refine below_set ?_ GE129.out))) hb); clear HO_6; clear BK129; clear HB; have HO_6 := n0_; have BK129 := n1_; have HB := n2_; clear n0_ n1_ n2_; (try clear hb); (try clear hb2); (try clear hk); (try clear hi); have hcz88_0 : w87.cell? ⟨gb129, 0, none⟩ = some (.int .i64 ((rd_T48 l1 x67_2).f0)) := (blk_cell BK129.out 0).trans rfl; have hcz88_1 : w87.cell? ⟨gb129, 1, none⟩ = some (.string ((rd_T48 l1 x67_2).f1)) := (blk_cell BK129.out 1).trans rfl; have hcz88_2 : w87.cell? ⟨gb129, 2, none⟩ = some (.string ((rd_T48 l1 x67_2).f2)) := (blk_cell BK129.out 2).trans rfl; have hcz88_3 : w87.cell? ⟨gb129, 3, none⟩ = some (.int .i64 ((rd_T48 l1 x67_2).f3)) := (blk_cell BK129.out 3).trans rfl; have hcz88_4 : w87.cell? ⟨gb129, 4, none⟩ = some (.string ((rd_T48 l1 x67_2).f4)) := (blk_cell BK129.out 4).trans rfl; have hcz88_5 : w87.cell? ⟨gb129, 5, none⟩ = some (.int .i64 ((rd_T48 l1 x67_2).f5)) := (blk_cell BK129.out 5).trans rfl; have hfz88_0 := blk_frozen BK129.out 0; have hfz88_1 := blk_frozen BK129.out 1; have hfz88_2 := blk_frozen BK129.out 2; have hfz88_3 := blk_frozen BK129.out 3; have hfz88_4 := blk_frozen BK129.out 4; have hfz88_5 := blk_frozen BK129.out 5) | (go_at_call 35; (with_reducible refine (spec_IsHeaderName.calls k2 t130 false _ A59.out).mono ?_); rintro e w89 ⟨rfl, hb⟩; have n0_ := Aside0.mk (Kd.R_below (by (with_reducible repeat (first | apply Kd.R_alloc | apply Kd.R_drewN | apply Kd.R_drew)); exact HO_6.out) hb); have n1_ := Aside0.mk (blk_below (g := gb129) (o := .cells #[.int .i64 ((rd_T48 l1 x67_2).f0), .string ((rd_T48 l1 x67_2).f1), .string ((rd_T48 l1 x67_2).f2), .int .i64 ((rd_T48 l1 x67_2).f3), .string ((rd_T48 l1 x67_2).f4), .int .i64 ((rd_T48 l1 x67_2).f5)] 48 (0, 0)) (by (with_reducible repeat (fail)); exact BK129.out) hb); have n2_ := Aside0.mk (below_step (by repeat ((with_reducible exact HB.out))) hb); clear HO_6; clear BK129; clear HB; have HO_6 := n0_; have BK129 := n1_; have HB := n2_; clear n0_ n1_ n2_; (try clear hb); (try clear hb2); (try clear hk); (try clear hi)))
                go_ret
                exact ⟨by rfl, by repeat ((with_reducible exact HB.out))⟩
          ·rw [if_neg c37] at H
           exact absurd H (by simp)
         ·rw [if_neg c36] at H
          exact absurd H (by simp)
        ·rw [if_neg c35] at H
         have c35b0 : decide (x67_2 < (l1.length : Int)) = false := decide_eq_false c35
         clear c35
         by_cases c90 : (l0.length : Int) ≤ 100
         ·rw [if_pos c90] at H
          have c90b0 : decide ((l0.length : Int) ≤ 100) = true := decide_eq_true c90
          have c90b1 : decide (l0.length ≤ 100) = true := decide_eq_true (by omega)
          clear c90
          by_cases c91 : (l1.length : Int) ≤ 100
          ·rw [if_pos c91] at H
           have c91b0 : decide ((l1.length : Int) ≤ 100) = true := decide_eq_true c91
           have c91b1 : decide (l1.length ≤ 100) = true := decide_eq_true (by omega)
           clear c91
           by_cases c92 : x5_2 ≤ 10000
           ·rw [if_pos c92] at H
            have c92b0 : decide (x5_2 ≤ 10000) = true := decide_eq_true c92
            clear c92
            replace H := Option.bind_eq_some_iff.mp H
            obtain ⟨t127, A930, H⟩ := H
            replace H : (some t127) = some r := H
            have A93 := Aside0.mk A930
            clear A930
            obtain rfl := Option.some.inj H
            obtain ⟨Ao94, co94, eo94⟩ := Kd.R_slice HO_6.out
            subst eo94
            go_wp2_with (first | (go_at_call 43; (with_reducible refine (spec_areUnlike.calls k2 _ _ x6_1 t127 _ ?side1 ?side2 A93.out).mono ?_); (case side1 => repeat (exact (Kd.R_reads' HO_6.out).2.2)); (case side2 => exact (Kd.R_reads' HO_6.out).2.1); rintro e w' ⟨rfl, ⟨nd, rfl⟩⟩))
            go_ret
            exact ⟨by rfl, by repeat ((with_reducible first | exact HB.out | apply pw_below_drewN ))⟩
           ·rw [if_neg c92] at H
            have c92b0 : decide (x5_2 ≤ 10000) = false := decide_eq_false c92
            clear c92
            obtain rfl := Option.some.inj H
            go_wp2
            go_ret
            exact ⟨by rfl, by repeat ((with_reducible exact HB.out))⟩
          ·rw [if_neg c91] at H
           have c91b0 : decide ((l1.length : Int) ≤ 100) = false := decide_eq_false c91
           have c91b1 : decide (l1.length ≤ 100) = false := decide_eq_false (by omega)
           clear c91
           obtain rfl := Option.some.inj H
           go_wp2
           go_ret
           exact ⟨by rfl, by repeat ((with_reducible exact HB.out))⟩
         ·rw [if_neg c90] at H
          have c90b0 : decide ((l0.length : Int) ≤ 100) = false := decide_eq_false c90
          have c90b1 : decide (l0.length ≤ 100) = false := decide_eq_false (by omega)
          clear c90
          obtain rfl := Option.some.inj H
          go_wp2
          go_ret
          exact ⟨by rfl, by repeat ((with_reducible exact HB.out))⟩

end Go.Proofs.YtclmjmfcggkpaaaGreatDoor.PX
