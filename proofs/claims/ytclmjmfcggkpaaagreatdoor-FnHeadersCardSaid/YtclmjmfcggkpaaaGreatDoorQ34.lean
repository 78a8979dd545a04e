import Derived.Test.YtclmjmfcggkpaaaGreatDoorQ5
namespace Go.Proofs.YtclmjmfcggkpaaaGreatDoor.PX
open Go.RowKit Go.Proofs.YtclmjmfcggkpaaaGreatDoorW.PrintWords Go.Proofs.YtclmjmfcggkpaaaGreatDoorW.PrintLast Go.Proofs.YtclmjmfcggkpaaaGreatDoorW.PrintMore
attribute [local go_sem] max2_int min2_int max_two min_two max_three min_three max_four min_four   -- for this text's walks alone
set_option linter.unusedVariables false
set_option linter.unusedSimpArgs false

/-! ### spec_SameHeaders: function 25 -/
mutual
def spec_SameHeaders.l0 : Nat → List (S73) → List (S73) → List (S73) → Int → Int → Option (Bool)
 | 0, _, _, _, _, _ => none
 | k + 1, x0, x1, x9, x10, x11 => if x11 < x10 then (if 0 ≤ x11 then (if x11 < (x9.length : Int) then (if x11 ≥ (x1.length : Int) then (spec_SameHeaders.j1 k x0 x1 x11 x9 x10 x11 true ((rd_T73 x9 x11).f0) ((rd_T73 x9 x11).f1)) else (if x11 < (x1.length : Int) then (if ((rd_T73 x1 x11).f0).toList = ((rd_T73 x9 x11).f0).toList then (spec_SameHeaders.j1 k x0 x1 x11 x9 x10 x11 ((((rd_T73 x1 x11).f1).length : Int) != (((rd_T73 x9 x11).f1).length : Int)) ((rd_T73 x9 x11).f0) ((rd_T73 x9 x11).f1)) else (spec_SameHeaders.j1 k x0 x1 x11 x9 x10 x11 true ((rd_T73 x9 x11).f0) ((rd_T73 x9 x11).f1))) else (none))) else (none)) else (none)) else (some ((x0.length : Int) == (x1.length : Int)))
def spec_SameHeaders.j1 : Nat → List (S73) → List (S73) → Int → List (S73) → Int → Int → Bool → ByteArray → List ByteArray → Option (Bool)
 | 0, _, _, _, _, _, _, _, _, _ => none
 | k + 1, x0, x1, x5, x9, x10, x11, x41, x268000, x268001 => if x41 = true then (some false) else (spec_SameHeaders.l1 k x0 x1 x5 x9 x10 x11 x268001 (x268001.length : Int) 0)
def spec_SameHeaders.l1 : Nat → List (S73) → List (S73) → Int → List (S73) → Int → Int → List ByteArray → Int → Int → Option (Bool)
 | 0, _, _, _, _, _, _, _, _, _ => none
 | k + 1, x0, x1, x5, x9, x10, x11, x43, x44, x45 => if x45 < x44 then (if 0 ≤ x45 then (if x45 < (x43.length : Int) then (if 0 ≤ x5 then (if x5 < (x1.length : Int) then (if x45 < (((rd_T73 x1 x5).f1).length : Int) then (if (rdOf ByteArray.empty ((rd_T73 x1 x5).f1) x45).toList = (rdOf ByteArray.empty x43 x45).toList then (spec_SameHeaders.l1 k x0 x1 x5 x9 x10 x11 x43 x44 (wrap64 (x45 + 1))) else (some false)) else (none)) else (none)) else (none)) else (none)) else (none)) else (spec_SameHeaders.l0 k x0 x1 x9 x10 (wrap64 (x11 + 1)))
end
def spec_SameHeaders.f (k : Nat) (l0 : List (S73)) (l1 : List (S73)) : Option (Bool) := spec_SameHeaders.l0 k l0 l1 l0 (l0.length : Int) 0
theorem spec_SameHeaders.mono_l : ∀ k, (∀ y0 y1 y2 y3 y4, LeO (spec_SameHeaders.l0 k y0 y1 y2 y3 y4) (spec_SameHeaders.l0 (k + 1) y0 y1 y2 y3 y4)) ∧ (∀ y0 y1 y2 y3 y4 y5 y6 y7 y8, LeO (spec_SameHeaders.j1 k y0 y1 y2 y3 y4 y5 y6 y7 y8) (spec_SameHeaders.j1 (k + 1) y0 y1 y2 y3 y4 y5 y6 y7 y8)) ∧ (∀ y0 y1 y2 y3 y4 y5 y6 y7 y8, LeO (spec_SameHeaders.l1 k y0 y1 y2 y3 y4 y5 y6 y7 y8) (spec_SameHeaders.l1 (k + 1) y0 y1 y2 y3 y4 y5 y6 y7 y8))
 | 0 => ⟨fun _ _ _ _ _ r h => by simp [spec_SameHeaders.l0] at h, fun _ _ _ _ _ _ _ _ _ r h => by simp [spec_SameHeaders.j1] at h, fun _ _ _ _ _ _ _ _ _ r h => by simp [spec_SameHeaders.l1] at h⟩
 | k + 1 => by
   obtain ⟨ih0, ih1, ih2⟩ := spec_SameHeaders.mono_l k
   refine ⟨?_, ?_, ?_⟩
   ·intro y0 y1 y2 y3 y4
    unfold spec_SameHeaders.l0
    repeat' first
    | (with_reducible exact ih0 _ _ _ _ _)
    | (with_reducible exact ih1 _ _ _ _ _ _ _ _ _)
    | (with_reducible exact ih2 _ _ _ _ _ _ _ _ _)
    | (with_reducible exact LeO.refl _)
    | (with_reducible exact LeO.none _)
    | (with_reducible refine LeO.ite ?_ ?_)
    | (with_reducible refine LeO.bind ?_ (fun _ => ?_))
    | exact ih0 _ _ _ _ _
    | exact ih1 _ _ _ _ _ _ _ _ _
    | exact ih2 _ _ _ _ _ _ _ _ _
    | exact LeO.none _
    | refine LeO.ite ?_ ?_
    | refine LeO.bind ?_ (fun _ => ?_)
   ·intro y0 y1 y2 y3 y4 y5 y6 y7 y8
    unfold spec_SameHeaders.j1
    repeat' first
    | (with_reducible exact ih0 _ _ _ _ _)
    | (with_reducible exact ih1 _ _ _ _ _ _ _ _ _)
    | (with_reducible exact ih2 _ _ _ _ _ _ _ _ _)
    | (with_reducible exact LeO.refl _)
    | (with_reducible exact LeO.none _)
    | (with_reducible refine LeO.ite ?_ ?_)
    | (with_reducible refine LeO.bind ?_ (fun _ => ?_))
    | exact ih0 _ _ _ _ _
    | exact ih1 _ _ _ _ _ _ _ _ _
    | exact ih2 _ _ _ _ _ _ _ _ _
    | exact LeO.none _
    | refine LeO.ite ?_ ?_
    | refine LeO.bind ?_ (fun _ => ?_)
   ·intro y0 y1 y2 y3 y4 y5 y6 y7 y8
    unfold spec_SameHeaders.l1
    repeat' first
    | (with_reducible exact ih0 _ _ _ _ _)
    | (with_reducible exact ih1 _ _ _ _ _ _ _ _ _)
    | (with_reducible exact ih2 _ _ _ _ _ _ _ _ _)
    | (with_reducible exact LeO.refl _)
    | (with_reducible exact LeO.none _)
    | (with_reducible refine LeO.ite ?_ ?_)
    | (with_reducible refine LeO.bind ?_ (fun _ => ?_))
    | exact ih0 _ _ _ _ _
    | exact ih1 _ _ _ _ _ _ _ _ _
    | exact ih2 _ _ _ _ _ _ _ _ _
    | exact LeO.none _
    | refine LeO.ite ?_ ?_
    | refine LeO.bind ?_ (fun _ => ?_)
theorem spec_SameHeaders.mono : ∀ a0 a1 k, LeO (spec_SameHeaders.f k a0 a1) (spec_SameHeaders.f (k + 1) a0 a1) := by
 intro a0 a1 k
 obtain ⟨ih0, ih1, ih2⟩ := spec_SameHeaders.mono_l k
 unfold spec_SameHeaders.f
 repeat' first
  | (with_reducible exact ih0 _ _ _ _ _)
  | (with_reducible exact ih1 _ _ _ _ _ _ _ _ _)
  | (with_reducible exact ih2 _ _ _ _ _ _ _ _ _)
  | (with_reducible exact LeO.refl _)
  | (with_reducible exact LeO.none _)
  | (with_reducible refine LeO.ite ?_ ?_)
  | (with_reducible refine LeO.bind ?_ (fun _ => ?_))
  | exact ih0 _ _ _ _ _
  | exact ih1 _ _ _ _ _ _ _ _ _
  | exact ih2 _ _ _ _ _ _ _ _ _
  | exact LeO.none _
  | refine LeO.ite ?_ ?_
  | refine LeO.bind ?_ (fun _ => ?_)
set_option maxHeartbeats 8000000 in
set_option maxRecDepth 100000 in
theorem spec_SameHeaders.calls (k : Nat) (A0 : Option Addr) (c0 : Nat) (l0 : List (S73)) (A1 : Option Addr) (c1 : Nat) (l1 : List (S73)) (r : Bool) (w : World) (hr0 : Kd.C k73 w A0 l0.length l0) (hc0 : l0.length ≤ c0) (hr1 : Kd.C k73 w A1 l1.length l1) (hc1 : l1.length ≤ c1) (h : spec_SameHeaders.f k l0 l1 = some r) :
 Calls Tryz.prog 25 #[.slice A0 l0.length c0, .slice A1 l1.length c1] w fun e w' => e = .returned (.bool r) ∧ Below w.heap.size w w' := by
 have hu73 := Tryz.underlying73
 have HR0 := Aside0.mk hr0
 have HC0 := Aside0.mk hc0
 clear hr0 hc0
 have HR1 := Aside0.mk hr1
 have HC1 := Aside0.mk hc1
 clear hr1 hc1
 have HB := Aside0.mk (Below.refl w.heap.size w)
 have H : (spec_SameHeaders.l0 k l0 l1 l0 (l0.length : Int) 0) = some r := h
 clear h
 have H' := Aside0.mk H
 clear H
 go_enter Tryz.func25, Tryz.ntmps25
 go_wp2
 repeat (go_quiet (fail); try go_wp2)
 go_loopg [11] k (fun kq v11 w' => ∃ (x11_1 : Int), v11 = .int .i64 x11_1 ∧ Aside0 (spec_SameHeaders.l0 kq l0 l1 l0 (l0.length : Int) x11_1 = some r) ∧ Aside0 (kq ≤ k) ∧ Aside0 (Below w.heap.size w w'))
 case atStart => exact ⟨(0), (by first | rfl | (simp; done) | (simp [*]; done)), H', ⟨Nat.le_refl _⟩, ⟨by repeat ((with_reducible exact HB.out))⟩⟩
 case round =>
  clear H'
  try clear c1
  try clear c2
  try clear p2
  obtain ⟨x11_1, rfl, HA, HK1, HB⟩ := hrel
  cases gk with
  | zero => exact absurd HA.out (by simp [spec_SameHeaders.l0])
  | succ k1 =>
    have H := HA.out
    clear HA
    simp only [spec_SameHeaders.l0] at H
    by_cases c3 : x11_1 < (l0.length : Int)
    ·rw [if_pos c3] at H
     have c3b0 : decide (x11_1 < (l0.length : Int)) = true := decide_eq_true c3
     clear c3
     by_cases c4 : 0 ≤ x11_1
     ·rw [if_pos c4] at H
      have c4b0 : decide (0 ≤ x11_1) = true := decide_eq_true c4
      clear c4
      by_cases c5 : x11_1 < (l0.length : Int)
      ·rw [if_pos c5] at H
       have c5b0 : decide (x11_1 < (l0.length : Int)) = true := decide_eq_true c5
       clear c5
       have HC6 := Aside0.mk H
       clear H
       have p266 : 0 ≤ (x11_1 : Int) := of_decide_eq_true (by first | (with_reducible assumption) | assumption)
       have q266 : x11_1 < (l0.length : Int) := of_decide_eq_true (by first | (with_reducible assumption) | assumption)
       obtain ⟨ad266, A266_1, c266_1, e266, hx266_0, hx266_1, hl266_1, hi266_1⟩ := at_T73 HR0.out x11_1 p266 q266
       cases e266
       replace hx266_0 := (HB.out.cell (World.block_lt_of_cell? w _ hx266_0)).trans hx266_0
       replace hx266_1 := (HB.out.cell (World.block_lt_of_cell? w _ hx266_1)).trans hx266_1
       have HR266_1 := Aside0.mk hi266_1
       have HC266_1 := Aside0.mk hl266_1
       clear hi266_1 hl266_1
       replace p266 := eq_true p266
       replace q266 := eq_true q266
       go_upto_region 4 with (first | ((with_reducible refine gate_dst (N := 6) rfl ?_); (try (refine gate_guard (by rfl) ?_; dsimp only)); refine box_event ?hg (N := 6) ?hd (cs := #[.string (⟨#[]⟩ : ByteArray), .slice none 0 0]) (t := 73) ?hr ?_; (case hd => rfl); (case hg => rfl); (case hr => first | (go_simp; done) | (go_simp; rfl)); intro gb267 hg w7 hbox hb; have n0_ := Aside0.mk (below_step (by repeat ((with_reducible exact HB.out))) hb); have n1_ := Aside0.mk (hbox); have n2_ := Aside0.mk ((by rw [hg]; exact (below_size (by repeat ((with_reducible exact HB.out)))) : w.heap.size ≤ gb267)); have n3_ := Aside0.mk ((by rw [hg]; exact (below_size (by repeat ((with_reducible exact HB.out)))) : w.heap.size ≤ gb267)); clear HB; have HB := n0_; have BK267 := n1_; have GW267 := n2_; have GE267 := n3_; clear n0_ n1_ n2_ n3_; clear hb hbox hg; have hcz8_0 : w7.cell? ⟨gb267, 0, none⟩ = some (.string (⟨#[]⟩ : ByteArray)) := (blk_cell BK267.out 0).trans rfl; have hcz8_1 : w7.cell? ⟨gb267, 1, none⟩ = some (.slice none 0 0) := (blk_cell BK267.out 1).trans rfl; have hfz8_0 := blk_frozen BK267.out 0; have hfz8_1 := blk_frozen BK267.out 1))
       repeat (go_quiet (first | ((with_reducible refine gate_dst (N := 6) rfl ?_); (try (refine gate_guard (by rfl) ?_; dsimp only)); refine box_event ?hg (N := 6) ?hd (cs := #[.string (⟨#[]⟩ : ByteArray), .slice none 0 0]) (t := 73) ?hr ?_; (case hd => rfl); (case hg => rfl); (case hr => first | (go_simp; done) | (go_simp; rfl)); intro gb267 hg w7 hbox hb; have n0_ := Aside0.mk (below_step (by repeat (fail)) hb); have n1_ := Aside0.mk (hbox); have n2_ := Aside0.mk ((by rw [hg]; exact (below_size (by repeat (fail))) : w.heap.size ≤ gb267)); have n3_ := Aside0.mk ((by rw [hg]; exact (below_size (by repeat (fail))) : w.heap.size ≤ gb267)); clear HB; have HB := n0_; have BK267 := n1_; have GW267 := n2_; have GE267 := n3_; clear n0_ n1_ n2_ n3_; clear hb hbox hg; have hcz8_0 : w7.cell? ⟨gb267, 0, none⟩ = some (.string (⟨#[]⟩ : ByteArray)) := (blk_cell BK267.out 0).trans rfl; have hcz8_1 : w7.cell? ⟨gb267, 1, none⟩ = some (.slice none 0 0) := (blk_cell BK267.out 1).trans rfl; have hfz8_0 := blk_frozen BK267.out 0; have hfz8_1 := blk_frozen BK267.out 1)); go_upto_region 4 with (first | ((with_reducible refine gate_dst (N := 6) rfl ?_); (try (refine gate_guard (by rfl) ?_; dsimp only)); refine box_event ?hg (N := 6) ?hd (cs := #[.string (⟨#[]⟩ : ByteArray), .slice none 0 0]) (t := 73) ?hr ?_; (case hd => rfl); (case hg => rfl); (case hr => first | (go_simp; done) | (go_simp; rfl)); intro gb267 hg w7 hbox hb; have n0_ := Aside0.mk (below_step (by repeat (fail)) hb); have n1_ := Aside0.mk (hbox); have n2_ := Aside0.mk ((by rw [hg]; exact (below_size (by repeat (fail))) : w.heap.size ≤ gb267)); have n3_ := Aside0.mk ((by rw [hg]; exact (below_size (by repeat (fail))) : w.heap.size ≤ gb267)); clear HB; have HB := n0_; have BK267 := n1_; have GW267 := n2_; have GE267 := n3_; clear n0_ n1_ n2_ n3_; clear hb hbox hg; have hcz8_0 : w7.cell? ⟨gb267, 0, none⟩ = some (.string (⟨#[]⟩ : ByteArray)) := (blk_cell BK267.out 0).trans rfl; have hcz8_1 : w7.cell? ⟨gb267, 1, none⟩ = some (.slice none 0 0) := (blk_cell BK267.out 1).trans rfl; have hfz8_0 := blk_frozen BK267.out 0; have hfz8_1 := blk_frozen BK267.out 1)))
       (skip)
       go_cut [41] (fun v41 wc => ∃ (kq : Nat) (x41_5 : Bool), v41 = .bool x41_5 ∧ Aside0 (spec_SameHeaders.j1 kq l0 l1 x11_1 l0 (l0.length : Int) x11_1 x41_5 ((rd_T73 l0 x11_1).f0) ((rd_T73 l0 x11_1).f1) = some r) ∧ Aside0 (kq ≤ k1) ∧ Aside0 (wc.heap[gb267]? = some (.cells #[.string ((rd_T73 l0 x11_1).f0), (.slice A266_1 ((rd_T73 l0 x11_1).f1).length c266_1)] 73 (0, 0))) ∧ Aside0 (Below w.heap.size w wc))
       case first =>
        have H := HC6.out
        clear HC6
        by_cases c9 : x11_1 ≥ (l1.length : Int)
        ·rw [if_pos c9] at H
         have c9b0 : decide ((l1.length : Int) ≤ x11_1) = true := decide_eq_true c9
         clear c9
         (first | rw [c9b0] | (simp only [i64_w, i32_w]; rw [c9b0]) | skip)
         have H' := Aside0.mk H
         clear H
         go_wp2
         repeat (go_quiet (fail); try go_wp2)
         go_meet
         case rel => exact ⟨_, (true), (by first | rfl | (simp; done) | (simp [*]; done)), H', ⟨by have := HK1.out; first | omega | exact Nat.le_refl _⟩, ⟨by (with_reducible repeat (refine blk_drewN ?_ _)); refine blk_put (cs := #[.string ((rd_T73 l0 x11_1).f0), .slice none 0 0]) ?_ 1 _ rfl; (with_reducible repeat (fail)); refine blk_put (cs := #[.string (⟨#[]⟩ : ByteArray), .slice none 0 0]) ?_ 0 _ rfl; (with_reducible repeat (fail)); exact BK267.out⟩, ⟨by repeat ((with_reducible first | exact HB.out | apply pw_below_drewN | refine below_set ?_ GE267.out))⟩⟩
        ·rw [if_neg c9] at H
         have c9b0 : decide ((l1.length : Int) ≤ x11_1) = false := decide_eq_false c9
         clear c9
         (first | rw [c9b0] | (simp only [i64_w, i32_w]; rw [c9b0]) | skip)
         by_cases c10 : x11_1 < (l1.length : Int)
         ·rw [if_pos c10] at H
          have c10b0 : decide (x11_1 < (l1.length : Int)) = true := decide_eq_true c10
          clear c10
          by_cases c11 : ((rd_T73 l1 x11_1).f0).toList = ((rd_T73 l0 x11_1).f0).toList
          ·rw [if_pos c11] at H
           have c11b0 : (((rd_T73 l1 x11_1).f0).toList == ((rd_T73 l0 x11_1).f0).toList) = true := beq_iff_eq.mpr c11
           have c11b1 : (((rd_T73 l1 x11_1).f0).toList != ((rd_T73 l0 x11_1).f0).toList) = false := bne_eq_false_iff_eq.mpr c11
           clear c11
           have H' := Aside0.mk H
           clear H
           have p268 : 0 ≤ (x11_1 : Int) := of_decide_eq_true (by first | (with_reducible assumption) | assumption)
           have q268 : x11_1 < (l1.length : Int) := of_decide_eq_true (by first | (with_reducible assumption) | assumption)
           obtain ⟨ad268, A268_1, c268_1, e268, hx268_0, hx268_1, hl268_1, hi268_1⟩ := at_T73 HR1.out x11_1 p268 q268
           cases e268
           have hn268_0 : ad268.block ≠ gb267 := Nat.ne_of_lt (Nat.lt_of_lt_of_le (by have := World.block_lt_of_cell? _ _ hx268_0; first | rwa [add_block] at this | exact this) GW267.out)
           have hn268_1 : ad268.block ≠ gb267 := Nat.ne_of_lt (Nat.lt_of_lt_of_le (by have := World.block_lt_of_cell? _ _ hx268_0; first | rwa [add_block] at this | exact this) GW267.out)
           replace hx268_0 := (HB.out.cell (World.block_lt_of_cell? w _ hx268_0)).trans hx268_0
           replace hx268_1 := (HB.out.cell (World.block_lt_of_cell? w _ hx268_1)).trans hx268_1
           have HR268_1 := Aside0.mk hi268_1
           have HC268_1 := Aside0.mk hl268_1
           clear hi268_1 hl268_1
           replace hx268_0 := (cell_far (p := ⟨gb267, 0, none⟩) (by (rw [add_block]; exact hn268_0)) (.string ((rd_T73 l0 x11_1).f0))).trans hx268_0
           replace hx268_1 := (cell_far (p := ⟨gb267, 0, none⟩) (by (rw [add_block]; exact hn268_0)) (.string ((rd_T73 l0 x11_1).f0))).trans hx268_1
           replace hx268_0 := (cell_far (p := ⟨gb267, 1, none⟩) (by (rw [add_block]; exact hn268_1)) (.slice A266_1 ((rd_T73 l0 x11_1).f1).length c266_1)).trans hx268_0
           replace hx268_1 := (cell_far (p := ⟨gb267, 1, none⟩) (by (rw [add_block]; exact hn268_1)) (.slice A266_1 ((rd_T73 l0 x11_1).f1).length c266_1)).trans hx268_1
           (try have hy268_0 := fun (n_ : Nat) => (show ((((w7.drewN n_).setCell ⟨gb267, 0, none⟩ (.string ((rd_T73 l0 x11_1).f0))).setCell ⟨gb267, 1, none⟩ (.slice A266_1 ((rd_T73 l0 x11_1).f1).length c266_1))).cell? _ = some _ from hx268_0))
           (try have hy268_1 := fun (n_ : Nat) => (show ((((w7.drewN n_).setCell ⟨gb267, 0, none⟩ (.string ((rd_T73 l0 x11_1).f0))).setCell ⟨gb267, 1, none⟩ (.slice A266_1 ((rd_T73 l0 x11_1).f1).length c266_1))).cell? _ = some _ from hx268_1))
           clear hn268_0
           clear hn268_1
           replace p268 := eq_true p268
           replace q268 := eq_true q268
           have hcz12_0 : w7.cell? ⟨gb267, 0, none⟩ = some (.string (⟨#[]⟩ : ByteArray)) := (blk_cell BK267.out 0).trans rfl
           have hcz12_1 : w7.cell? ⟨gb267, 1, none⟩ = some (.slice none 0 0) := (blk_cell BK267.out 1).trans rfl
           have hfz12_0 := blk_frozen BK267.out 0
           have hfz12_1 := blk_frozen BK267.out 1
           have p269 : 0 ≤ (x11_1 : Int) := of_decide_eq_true (by first | (with_reducible assumption) | assumption)
           have q269 : x11_1 < (l1.length : Int) := of_decide_eq_true (by first | (with_reducible assumption) | assumption)
           obtain ⟨ad269, A269_1, c269_1, e269, hx269_0, hx269_1, hl269_1, hi269_1⟩ := at_T73 HR1.out x11_1 p269 q269
           obtain rfl : ad268 = ad269 := (by injection e269)
           have hn269_0 : ad268.block ≠ gb267 := Nat.ne_of_lt (Nat.lt_of_lt_of_le (by have := World.block_lt_of_cell? _ _ hx269_0; first | rwa [add_block] at this | exact this) GW267.out)
           have hn269_1 : ad268.block ≠ gb267 := Nat.ne_of_lt (Nat.lt_of_lt_of_le (by have := World.block_lt_of_cell? _ _ hx269_0; first | rwa [add_block] at this | exact this) GW267.out)
           replace hx269_0 := (HB.out.cell (World.block_lt_of_cell? w _ hx269_0)).trans hx269_0
           replace hx269_1 := (HB.out.cell (World.block_lt_of_cell? w _ hx269_1)).trans hx269_1
           have HR269_1 := Aside0.mk hi269_1
           have HC269_1 := Aside0.mk hl269_1
           clear hi269_1 hl269_1
           replace hx269_0 := (cell_far (p := ⟨gb267, 0, none⟩) (by (rw [add_block]; exact hn269_0)) (.string ((rd_T73 l0 x11_1).f0))).trans hx269_0
           replace hx269_1 := (cell_far (p := ⟨gb267, 0, none⟩) (by (rw [add_block]; exact hn269_0)) (.string ((rd_T73 l0 x11_1).f0))).trans hx269_1
           replace hx269_0 := (cell_far (p := ⟨gb267, 1, none⟩) (by (rw [add_block]; exact hn269_1)) (.slice A266_1 ((rd_T73 l0 x11_1).f1).length c266_1)).trans hx269_0
           replace hx269_1 := (cell_far (p := ⟨gb267, 1, none⟩) (by (rw [add_block]; exact hn269_1)) (.slice A266_1 ((rd_T73 l0 x11_1).f1).length c266_1)).trans hx269_1
           (try have hy269_0 := fun (n_ : Nat) => (show ((((w7.drewN n_).setCell ⟨gb267, 0, none⟩ (.string ((rd_T73 l0 x11_1).f0))).setCell ⟨gb267, 1, none⟩ (.slice A266_1 ((rd_T73 l0 x11_1).f1).length c266_1))).cell? _ = some _ from hx269_0))
           (try have hy269_1 := fun (n_ : Nat) => (show ((((w7.drewN n_).setCell ⟨gb267, 0, none⟩ (.string ((rd_T73 l0 x11_1).f0))).setCell ⟨gb267, 1, none⟩ (.slice A266_1 ((rd_T73 l0 x11_1).f1).length c266_1))).cell? _ = some _ from hx269_1))
           clear hn269_0
           clear hn269_1
           replace p269 := eq_true p269
           replace q269 := eq_true q269
           go_wp2
           repeat (go_quiet (fail); try go_wp2)
           go_meet
           case rel => exact ⟨_, (((((rd_T73 l1 x11_1).f1).length : Int) != (((rd_T73 l0 x11_1).f1).length : Int))), (by first | rfl | (simp; done) | (simp [*]; done)), H', ⟨by have := HK1.out; first | omega | exact Nat.le_refl _⟩, ⟨by (with_reducible repeat (refine blk_drewN ?_ _)); refine blk_put (cs := #[.string ((rd_T73 l0 x11_1).f0), .slice none 0 0]) ?_ 1 _ rfl; (with_reducible repeat (fail)); refine blk_put (cs := #[.string (⟨#[]⟩ : ByteArray), .slice none 0 0]) ?_ 0 _ rfl; (with_reducible repeat (fail)); exact BK267.out⟩, ⟨by repeat ((with_reducible first | exact HB.out | apply pw_below_drewN | refine below_set ?_ GE267.out))⟩⟩
          ·rw [if_neg c11] at H
           have c11b0 : (((rd_T73 l1 x11_1).f0).toList == ((rd_T73 l0 x11_1).f0).toList) = false := beq_eq_false_iff_ne.mpr c11
           have c11b1 : (((rd_T73 l1 x11_1).f0).toList != ((rd_T73 l0 x11_1).f0).toList) = true := bne_iff_ne.mpr c11
           have H' := Aside0.mk H
           clear H
           have p268 : 0 ≤ (x11_1 : Int) := of_decide_eq_true (by first | (with_reducible assumption) | assumption)
           have q268 : x11_1 < (l1.length : Int) := of_decide_eq_true (by first | (with_reducible assumption) | assumption)
           obtain ⟨ad268, A268_1, c268_1, e268, hx268_0, hx268_1, hl268_1, hi268_1⟩ := at_T73 HR1.out x11_1 p268 q268
           cases e268
           have hn268_0 : ad268.block ≠ gb267 := Nat.ne_of_lt (Nat.lt_of_lt_of_le (by have := World.block_lt_of_cell? _ _ hx268_0; first | rwa [add_block] at this | exact this) GW267.out)
           have hn268_1 : ad268.block ≠ gb267 := Nat.ne_of_lt (Nat.lt_of_lt_of_le (by have := World.block_lt_of_cell? _ _ hx268_0; first | rwa [add_block] at this | exact this) GW267.out)
           replace hx268_0 := (HB.out.cell (World.block_lt_of_cell? w _ hx268_0)).trans hx268_0
           replace hx268_1 := (HB.out.cell (World.block_lt_of_cell? w _ hx268_1)).trans hx268_1
           have HR268_1 := Aside0.mk hi268_1
           have HC268_1 := Aside0.mk hl268_1
           clear hi268_1 hl268_1
           replace hx268_0 := (cell_far (p := ⟨gb267, 0, none⟩) (by (rw [add_block]; exact hn268_0)) (.string ((rd_T73 l0 x11_1).f0))).trans hx268_0
           replace hx268_1 := (cell_far (p := ⟨gb267, 0, none⟩) (by (rw [add_block]; exact hn268_0)) (.string ((rd_T73 l0 x11_1).f0))).trans hx268_1
           replace hx268_0 := (cell_far (p := ⟨gb267, 1, none⟩) (by (rw [add_block]; exact hn268_1)) (.slice A266_1 ((rd_T73 l0 x11_1).f1).length c266_1)).trans hx268_0
           replace hx268_1 := (cell_far (p := ⟨gb267, 1, none⟩) (by (rw [add_block]; exact hn268_1)) (.slice A266_1 ((rd_T73 l0 x11_1).f1).length c266_1)).trans hx268_1
           (try have hy268_0 := fun (n_ : Nat) => (show ((((w7.drewN n_).setCell ⟨gb267, 0, none⟩ (.string ((rd_T73 l0 x11_1).f0))).setCell ⟨gb267, 1, none⟩ (.slice A266_1 ((rd_T73 l0 x11_1).f1).length c266_1))).cell? _ = some _ from hx268_0))
           (try have hy268_1 := fun (n_ : Nat) => (show ((((w7.drewN n_).setCell ⟨gb267, 0, none⟩ (.string ((rd_T73 l0 x11_1).f0))).setCell ⟨gb267, 1, none⟩ (.slice A266_1 ((rd_T73 l0 x11_1).f1).length c266_1))).cell? _ = some _ from hx268_1))
           clear hn268_0
           clear hn268_1
           replace p268 := eq_true p268
           replace q268 := eq_true q268
           have hcz13_0 : w7.cell? ⟨gb267, 0, none⟩ = some (.string (⟨#[]⟩ : ByteArray)) := (blk_cell BK267.out 0).trans rfl
           have hcz13_1 : w7.cell? ⟨gb267, 1, none⟩ = some (.slice none 0 0) := (blk_cell BK267.out 1).trans rfl
           have hfz13_0 := blk_frozen BK267.out 0
           have hfz13_1 := blk_frozen BK267.out 1
           go_wp2
           repeat (go_quiet (fail); try go_wp2)
           go_meet
           case rel => exact ⟨_, (true), (by first | rfl | (simp; done) | (simp [*]; done)), H', ⟨by have := HK1.out; first | omega | exact Nat.le_refl _⟩, ⟨by (with_reducible repeat (refine blk_drewN ?_ _)); refine blk_put (cs := #[.string ((rd_T73 l0 x11_1).f0), .slice none 0 0]) ?_ 1 _ rfl; (with_reducible repeat (fail)); refine blk_put (cs := #[.string (⟨#[]⟩ : ByteArray), .slice none 0 0]) ?_ 0 _ rfl; (with_reducible repeat (fail)); exact BK267.out⟩, ⟨by repeat ((with_reducible first | exact HB.out | apply pw_below_drewN | refine below_set ?_ GE267.out))⟩⟩
         ·rw [if_neg c10] at H
          exact absurd H (by simp)
       case rest =>
        clear HC6
        try clear c1
        try clear c2
        try clear p2
        try clear q2
        try clear hx2
        try clear c3
        try clear c3b0
        try clear c4
        try clear c4b0
        try clear c5
        try clear c5b0
        try clear c9
        try clear c9b0
        try clear c10
        try clear c10b0
        try clear c11
        try clear c11b0
        try clear c11b1
        try clear hcz12_0
        try clear hcz12_1
        try clear hcz13_0
        try clear hcz13_1
        try clear hcz8_0
        try clear hcz8_1
        try clear hfz12_0
        try clear hfz12_1
        try clear hfz13_0
        try clear hfz13_1
        try clear hfz8_0
        try clear hfz8_1
        try clear hx266_0
        try clear hx266_1
        try clear hx268_0
        try clear hx268_1
        try clear hx269_0
        try clear hx269_1
        try clear p2
        try clear p266
        try clear p268
        try clear p269
        try clear q266
        try clear q268
        try clear q269
        obtain ⟨kq, x41_5, rfl, HA, HJ5, BK267, HB⟩ := hcut
        cases kq with
        | zero => exact absurd HA.out (by simp [spec_SameHeaders.j1])
        | succ kj5 =>
          have H := HA.out
          clear HA
          simp only [spec_SameHeaders.j1] at H
          by_cases c14 : x41_5 = true
          ·subst c14
           have H1 : (some false) = some r := by rw [if_pos rfl] at H; exact H
           clear H
           have H := H1
           clear H1
           obtain rfl := Option.some.inj H
           go_wp2
           repeat (go_quiet (fail); try go_wp2)
           go_ret
           exact ⟨by rfl, by repeat ((with_reducible exact HB.out))⟩
          ·replace c14 := Bool.eq_false_iff.mpr c14
           subst c14
           have H1 : (spec_SameHeaders.l1 kj5 l0 l1 x11_1 l0 (l0.length : Int) x11_1 ((rd_T73 l0 x11_1).f1) (((rd_T73 l0 x11_1).f1).length : Int) 0) = some r := by rw [if_neg (show ¬ (false = true) by decide)] at H; exact H
           clear H
           have H := H1
           clear H1
           have H' := Aside0.mk H
           clear H
           have hcz15_0 : wc.cell? ⟨gb267, 0, none⟩ = some (.string ((rd_T73 l0 x11_1).f0)) := (blk_cell BK267.out 0).trans rfl
           have hcz15_1 : wc.cell? ⟨gb267, 1, none⟩ = some (.slice A266_1 ((rd_T73 l0 x11_1).f1).length c266_1) := (blk_cell BK267.out 1).trans rfl
           have hfz15_0 := blk_frozen BK267.out 0
           have hfz15_1 := blk_frozen BK267.out 1
           go_wp2
           repeat (go_quiet (fail); try go_wp2)
           go_loopg [45] kj5 (fun kq v45 w' => ∃ (x45_3 : Int), v45 = .int .i64 x45_3 ∧ Aside0 (spec_SameHeaders.l1 kq l0 l1 x11_1 l0 (l0.length : Int) x11_1 ((rd_T73 l0 x11_1).f1) (((rd_T73 l0 x11_1).f1).length : Int) x45_3 = some r) ∧ Aside0 (kq ≤ kj5) ∧ Aside0 (w'.heap[gb267]? = some (.cells #[.string ((rd_T73 l0 x11_1).f0), (.slice A266_1 ((rd_T73 l0 x11_1).f1).length c266_1)] 73 (0, 0))) ∧ Aside0 (Below w.heap.size w w'))
           case atStart => exact ⟨(0), (by first | rfl | (simp; done) | (simp [*]; done)), H', ⟨Nat.le_refl _⟩, ⟨by (with_reducible repeat (fail)); exact BK267.out⟩, ⟨by repeat ((with_reducible exact HB.out))⟩⟩
           case round =>
            clear H'
            try clear c1
            try clear c2
            try clear p2
            try clear q2
            try clear hx2
            try clear c3
            try clear c3b0
            try clear c4
            try clear c4b0
            try clear c5
            try clear c5b0
            try clear c9
            try clear c9b0
            try clear c10
            try clear c10b0
            try clear c11
            try clear c11b0
            try clear c11b1
            try clear c14
            try clear hcz12_0
            try clear hcz12_1
            try clear hcz13_0
            try clear hcz13_1
            try clear hcz15_0
            try clear hcz15_1
            try clear hcz8_0
            try clear hcz8_1
            try clear hfz12_0
            try clear hfz12_1
            try clear hfz13_0
            try clear hfz13_1
            try clear hfz15_0
            try clear hfz15_1
            try clear hfz8_0
            try clear hfz8_1
            try clear hx266_0
            try clear hx266_1
            try clear hx268_0
            try clear hx268_1
            try clear hx269_0
            try clear hx269_1
            try clear p2
            try clear p266
            try clear p268
            try clear p269
            try clear q2
            try clear q266
            try clear q268
            try clear q269
            obtain ⟨x45_3, rfl, HA, HK3, BK267, HB⟩ := hrel
            cases gk with
            | zero => exact absurd HA.out (by simp [spec_SameHeaders.l1])
            | succ k3 =>
              have H := HA.out
              clear HA
              simp only [spec_SameHeaders.l1] at H
              by_cases c16 : x45_3 < (((rd_T73 l0 x11_1).f1).length : Int)
              ·rw [if_pos c16] at H
               have c16b0 : decide (x45_3 < (((rd_T73 l0 x11_1).f1).length : Int)) = true := decide_eq_true c16
               clear c16
               by_cases c17 : 0 ≤ x45_3
               ·rw [if_pos c17] at H
                have c17b0 : decide (0 ≤ x45_3) = true := decide_eq_true c17
                clear c17
                by_cases c18 : x45_3 < (((rd_T73 l0 x11_1).f1).length : Int)
                ·rw [if_pos c18] at H
                 have c18b0 : decide (x45_3 < (((rd_T73 l0 x11_1).f1).length : Int)) = true := decide_eq_true c18
                 clear c18
                 by_cases c19 : 0 ≤ x11_1
                 ·rw [if_pos c19] at H
                  have c19b0 : decide (0 ≤ x11_1) = true := decide_eq_true c19
                  clear c19
                  by_cases c20 : x11_1 < (l1.length : Int)
                  ·rw [if_pos c20] at H
                   have c20b0 : decide (x11_1 < (l1.length : Int)) = true := decide_eq_true c20
                   clear c20
                   by_cases c21 : x45_3 < (((rd_T73 l1 x11_1).f1).length : Int)
                   ·rw [if_pos c21] at H
                    have c21b0 : decide (x45_3 < (((rd_T73 l1 x11_1).f1).length : Int)) = true := decide_eq_true c21
                    clear c21
                    by_cases c22 : (rdOf ByteArray.empty ((rd_T73 l1 x11_1).f1) x45_3).toList = (rdOf ByteArray.empty ((rd_T73 l0 x11_1).f1) x45_3).toList
                    ·rw [if_pos c22] at H
                     have c22b0 : ((rdOf ByteArray.empty ((rd_T73 l1 x11_1).f1) x45_3).toList == (rdOf ByteArray.empty ((rd_T73 l0 x11_1).f1) x45_3).toList) = true := beq_iff_eq.mpr c22
                     have c22b1 : ((rdOf ByteArray.empty ((rd_T73 l1 x11_1).f1) x45_3).toList != (rdOf ByteArray.empty ((rd_T73 l0 x11_1).f1) x45_3).toList) = false := bne_eq_false_iff_eq.mpr c22
                     clear c22
                     have H' := Aside0.mk H
                     clear H
                     have p270 : 0 ≤ (x45_3 : Int) := of_decide_eq_true (by first | (with_reducible assumption) | assumption)
                     have q270 : x45_3 < (((rd_T73 l0 x11_1).f1).length : Int) := of_decide_eq_true (by first | (with_reducible assumption) | assumption)
                     obtain ⟨ad270, e270, hx270_0⟩ := Kd.at_string HR266_1.out x45_3 p270 q270
                     cases e270
                     replace hx270_0 := (HB.out.cell (World.block_lt_of_cell? w _ hx270_0)).trans hx270_0
                     replace p270 := eq_true p270
                     replace q270 := eq_true q270
                     have p271 : 0 ≤ (x11_1 : Int) := of_decide_eq_true (by first | (with_reducible assumption) | assumption)
                     have q271 : x11_1 < (l1.length : Int) := of_decide_eq_true (by first | (with_reducible assumption) | assumption)
                     obtain ⟨ad271, A271_1, c271_1, e271, hx271_0, hx271_1, hl271_1, hi271_1⟩ := at_T73 HR1.out x11_1 p271 q271
                     cases e271
                     replace hx271_0 := (HB.out.cell (World.block_lt_of_cell? w _ hx271_0)).trans hx271_0
                     replace hx271_1 := (HB.out.cell (World.block_lt_of_cell? w _ hx271_1)).trans hx271_1
                     have HR271_1 := Aside0.mk hi271_1
                     have HC271_1 := Aside0.mk hl271_1
                     clear hi271_1 hl271_1
                     replace p271 := eq_true p271
                     replace q271 := eq_true q271
                     have p272 : 0 ≤ (x45_3 : Int) := of_decide_eq_true (by first | (with_reducible assumption) | assumption)
                     have q272 : x45_3 < (((rd_T73 l1 x11_1).f1).length : Int) := of_decide_eq_true (by first | (with_reducible assumption) | assumption)
                     obtain ⟨ad272, e272, hx272_0⟩ := Kd.at_string HR271_1.out x45_3 p272 q272
                     cases e272
                     replace hx272_0 := (HB.out.cell (World.block_lt_of_cell? w _ hx272_0)).trans hx272_0
                     replace p272 := eq_true p272
                     replace q272 := eq_true q272
                     go_wp2
                     repeat (go_quiet (fail); try go_wp2)
                     go_roundg k3
                     case measure => have := HK1.out; have := HJ5.out; have := HK3.out; omega
                     case rel => exact ⟨(wrap64 (x45_3 + 1)), (by first | rfl | (simp; done) | (simp [*]; done)), H', ⟨by have := HK1.out; have := HJ5.out; have := HK3.out; omega⟩, ⟨by (with_reducible repeat (fail)); exact BK267.out⟩, ⟨by repeat ((with_reducible exact HB.out))⟩⟩
                    ·rw [if_neg c22] at H
                     have c22b0 : ((rdOf ByteArray.empty ((rd_T73 l1 x11_1).f1) x45_3).toList == (rdOf ByteArray.empty ((rd_T73 l0 x11_1).f1) x45_3).toList) = false := beq_eq_false_iff_ne.mpr c22
                     have c22b1 : ((rdOf ByteArray.empty ((rd_T73 l1 x11_1).f1) x45_3).toList != (rdOf ByteArray.empty ((rd_T73 l0 x11_1).f1) x45_3).toList) = true := bne_iff_ne.mpr c22
                     obtain rfl := Option.some.inj H
                     have p270 : 0 ≤ (x45_3 : Int) := of_decide_eq_true (by first | (with_reducible assumption) | assumption)
                     have q270 : x45_3 < (((rd_T73 l0 x11_1).f1).length : Int) := of_decide_eq_true (by first | (with_reducible assumption) | assumption)
                     obtain ⟨ad270, e270, hx270_0⟩ := Kd.at_string HR266_1.out x45_3 p270 q270
                     cases e270
                     replace hx270_0 := (HB.out.cell (World.block_lt_of_cell? w _ hx270_0)).trans hx270_0
                     replace p270 := eq_true p270
                     replace q270 := eq_true q270
                     have p271 : 0 ≤ (x11_1 : Int) := of_decide_eq_true (by first | (with_reducible assumption) | assumption)
                     have q271 : x11_1 < (l1.length : Int) := of_decide_eq_true (by first | (with_reducible assumption) | assumption)
                     obtain ⟨ad271, A271_1, c271_1, e271, hx271_0, hx271_1, hl271_1, hi271_1⟩ := at_T73 HR1.out x11_1 p271 q271
                     cases e271
                     replace hx271_0 := (HB.out.cell (World.block_lt_of_cell? w _ hx271_0)).trans hx271_0
                     replace hx271_1 := (HB.out.cell (World.block_lt_of_cell? w _ hx271_1)).trans hx271_1
                     have HR271_1 := Aside0.mk hi271_1
                     have HC271_1 := Aside0.mk hl271_1
                     clear hi271_1 hl271_1
                     replace p271 := eq_true p271
                     replace q271 := eq_true q271
                     have p272 : 0 ≤ (x45_3 : Int) := of_decide_eq_true (by first | (with_reducible assumption) | assumption)
                     have q272 : x45_3 < (((rd_T73 l1 x11_1).f1).length : Int) := of_decide_eq_true (by first | (with_reducible assumption) | assumption)
                     obtain ⟨ad272, e272, hx272_0⟩ := Kd.at_string HR271_1.out x45_3 p272 q272
                     cases e272
                     replace hx272_0 := (HB.out.cell (World.block_lt_of_cell? w _ hx272_0)).trans hx272_0
                     replace p272 := eq_true p272
                     replace q272 := eq_true q272
                     go_wp2
                     repeat (go_quiet (fail); try go_wp2)
                     go_ret
                     exact ⟨by rfl, by repeat ((with_reducible exact HB.out))⟩
                   ·rw [if_neg c21] at H
                    exact absurd H (by simp)
                  ·rw [if_neg c20] at H
                   exact absurd H (by simp)
                 ·rw [if_neg c19] at H
                  exact absurd H (by simp)
                ·rw [if_neg c18] at H
                 exact absurd H (by simp)
               ·rw [if_neg c17] at H
                exact absurd H (by simp)
              ·rw [if_neg c16] at H
               have c16b0 : decide (x45_3 < (((rd_T73 l0 x11_1).f1).length : Int)) = false := decide_eq_false c16
               clear c16
               have H' := Aside0.mk H
               clear H
               go_wp2
               repeat (go_quiet (fail); try go_wp2)
               go_roundg k3
               case measure => have := HK1.out; have := HJ5.out; have := HK3.out; omega
               case rel => exact ⟨(wrap64 (x11_1 + 1)), (by first | rfl | (simp; done) | (simp [*]; done)), H', ⟨by have := HK1.out; have := HJ5.out; have := HK3.out; omega⟩, ⟨by repeat ((with_reducible exact HB.out))⟩⟩
      ·rw [if_neg c5] at H
       exact absurd H (by simp)
     ·rw [if_neg c4] at H
      exact absurd H (by simp)
    ·rw [if_neg c3] at H
     have c3b0 : decide (x11_1 < (l0.length : Int)) = false := decide_eq_false c3
     clear c3
     obtain rfl := Option.some.inj H
     go_wp2
     repeat (go_quiet (fail); try go_wp2)
     go_ret
     exact ⟨by rfl, by repeat ((with_reducible exact HB.out))⟩

end Go.Proofs.YtclmjmfcggkpaaaGreatDoor.PX
