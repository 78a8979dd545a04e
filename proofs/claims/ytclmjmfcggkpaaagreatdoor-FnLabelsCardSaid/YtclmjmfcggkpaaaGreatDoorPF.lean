import Derived.Test.YtclmjmfcggkpaaaGreatDoorPXx0
-- printed by this session's own program over the kit's print.py; Lean checks it
namespace Go.Proofs.YtclmjmfcggkpaaaGreatDoor.PX
open Go.RowKit Go.Proofs.YtclmjmfcggkpaaaGreatDoorW.PrintWords Go.Proofs.YtclmjmfcggkpaaaGreatDoorW.PrintLast Go.Proofs.YtclmjmfcggkpaaaGreatDoorW.PrintMore
attribute [local go_sem] max2_int min2_int max_two min_two max_three min_three max_four min_four   -- for this text's walks alone
set_option linter.unusedVariables false
set_option linter.unusedSimpArgs false

/-! ### spec_HasByte: function 32 -/
def spec_HasByte.l0 : Nat → ByteArray → Int → Int → Int → Option (Bool)
  | 0, _, _, _, _ => none
  | k + 1, x0, x1, x7, x8 => if x8 < x7 then (if 0 ≤ x8 then (if x8 < (x0.size : Int) then (if (bt x0 x8) = x1 then (some true) else (spec_HasByte.l0 k x0 x1 x7 (wrap64 (x8 + 1)))) else (none)) else (none)) else (some false)
def spec_HasByte.f (k : Nat) (a0 : ByteArray) (a1 : Int) : Option (Bool) := spec_HasByte.l0 k a0 a1 (a0.size : Int) 0
theorem spec_HasByte.mono_l : ∀ k, (∀ y0 y1 y2 y3, LeO (spec_HasByte.l0 k y0 y1 y2 y3) (spec_HasByte.l0 (k + 1) y0 y1 y2 y3))
  | 0 => fun _ _ _ _ r h => by simp [spec_HasByte.l0] at h
  | k + 1 => by
    have ih0 := spec_HasByte.mono_l k
    · intro y0 y1 y2 y3
      unfold spec_HasByte.l0
      repeat' first
      | (with_reducible exact ih0 _ _ _ _)
      | (with_reducible exact LeO.refl _)
      | (with_reducible exact LeO.none _)
      | (with_reducible refine LeO.ite ?_ ?_)
      | (with_reducible refine LeO.bind ?_ (fun _ => ?_))
      | exact ih0 _ _ _ _
      | exact LeO.none _
      | refine LeO.ite ?_ ?_
      | refine LeO.bind ?_ (fun _ => ?_)
theorem spec_HasByte.mono : ∀ a0 a1 k, LeO (spec_HasByte.f k a0 a1) (spec_HasByte.f (k + 1) a0 a1) := by
  intro a0 a1 k
  have ih0 := spec_HasByte.mono_l k
  unfold spec_HasByte.f
  repeat' first
      | (with_reducible exact ih0 _ _ _ _)
      | (with_reducible exact LeO.refl _)
      | (with_reducible exact LeO.none _)
      | (with_reducible refine LeO.ite ?_ ?_)
      | (with_reducible refine LeO.bind ?_ (fun _ => ?_))
      | exact ih0 _ _ _ _
      | exact LeO.none _
      | refine LeO.ite ?_ ?_
      | refine LeO.bind ?_ (fun _ => ?_)
set_option maxHeartbeats 8000000 in
set_option maxRecDepth 100000 in
theorem spec_HasByte.calls (k : Nat) (a0 : ByteArray) (a1 : Int) (r : Bool) (w : World) (h : spec_HasByte.f k a0 a1 = some r) :
    Calls Tryz.prog 32 #[.string a0, .int .u8 a1] w fun e w' => e = .returned (.bool r) ∧ Drawn0 w w' := by
  have H : (spec_HasByte.l0 k a0 a1 (a0.size : Int) 0) = some r := h
  clear h
  have H' := Aside0.mk H
  clear H
  go_enter Tryz.func32, Tryz.ntmps32
  go_wp2
  go_loopg [8] k (fun kq v8 w' => ∃ (x8_1 : Int), v8 = .int .i64 x8_1 ∧ Aside0 (spec_HasByte.l0 kq a0 a1 (a0.size : Int) x8_1 = some r) ∧ Aside0 (kq ≤ k) ∧ Drawn0 w w')
  case atStart => exact ⟨(0), (by first | rfl | (simp; done) | (simp [*]; done)), H', ⟨Nat.le_refl _⟩, by repeat (first | exact Drawn0.refl _ | apply Drawn0.step)⟩
  case round =>
    clear H'
    try clear p2
    obtain ⟨x8_1, rfl, HA, HK1, ⟨m1, rfl⟩⟩ := hrel
    cases gk with
    | zero => exact absurd HA.out (by simp [spec_HasByte.l0])
    | succ k1 =>
      have H := HA.out
      clear HA
      simp only [spec_HasByte.l0] at H
      by_cases c3 : x8_1 < (a0.size : Int)
      · rw [if_pos c3] at H
        have c3b0 : decide (x8_1 < (a0.size : Int)) = true := decide_eq_true c3
        clear c3
        by_cases c4 : 0 ≤ x8_1
        · rw [if_pos c4] at H
          have c4b0 : decide (0 ≤ x8_1) = true := decide_eq_true c4
          clear c4
          by_cases c5 : x8_1 < (a0.size : Int)
          · rw [if_pos c5] at H
            have c5b0 : decide (x8_1 < (a0.size : Int)) = true := decide_eq_true c5
            clear c5
            by_cases c7 : (bt a0 x8_1) = a1
            · rw [if_pos c7] at H
              have c7b0 : ((bt a0 x8_1) == a1) = true := beq_iff_eq.mpr c7
              have c7b1 : ((bt a0 x8_1) != a1) = false := bne_eq_false_iff_eq.mpr c7
              clear c7
              obtain rfl := Option.some.inj H
              have p6 : 0 ≤ (x8_1 : Int) := of_decide_eq_true (by first | (with_reducible assumption) | assumption)
              have q6 : x8_1 < (a0.size : Int) := of_decide_eq_true (by first | (with_reducible assumption) | assumption)
              have hx6 := bt_at a0 x8_1
              replace p6 := eq_true p6
              replace q6 := eq_true q6
              go_wp2
              go_ret
              exact ⟨by first | rfl | (simp; done) | (simp [*]; done), by repeat (first | exact Drawn0.refl _ | apply Drawn0.step)⟩
            · rw [if_neg c7] at H
              have c7b0 : ((bt a0 x8_1) == a1) = false := beq_eq_false_iff_ne.mpr c7
              have c7b1 : ((bt a0 x8_1) != a1) = true := bne_iff_ne.mpr c7
              have H' := Aside0.mk H
              clear H
              have p6 : 0 ≤ (x8_1 : Int) := of_decide_eq_true (by first | (with_reducible assumption) | assumption)
              have q6 : x8_1 < (a0.size : Int) := of_decide_eq_true (by first | (with_reducible assumption) | assumption)
              have hx6 := bt_at a0 x8_1
              replace p6 := eq_true p6
              replace q6 := eq_true q6
              go_wp2
              go_roundg k1
              case measure => have := HK1.out; omega
              case rel => exact ⟨(wrap64 (x8_1 + 1)), (by first | rfl | (simp; done) | (simp [*]; done)), H', ⟨by have := HK1.out; omega⟩, by repeat (first | exact Drawn0.refl _ | apply Drawn0.step)⟩
          · rw [if_neg c5] at H
            exact absurd H (by simp)
        · rw [if_neg c4] at H
          exact absurd H (by simp)
      · rw [if_neg c3] at H
        have c3b0 : decide (x8_1 < (a0.size : Int)) = false := decide_eq_false c3
        clear c3
        obtain rfl := Option.some.inj H
        go_wp2
        go_ret
        exact ⟨by first | rfl | (simp; done) | (simp [*]; done), by repeat (first | exact Drawn0.refl _ | apply Drawn0.step)⟩

end Go.Proofs.YtclmjmfcggkpaaaGreatDoor.PX
-- printed by this session's own program over the kit's print.py; Lean checks it
namespace Go.Proofs.YtclmjmfcggkpaaaGreatDoor.PX
open Go.RowKit Go.Proofs.YtclmjmfcggkpaaaGreatDoorW.PrintWords Go.Proofs.YtclmjmfcggkpaaaGreatDoorW.PrintLast Go.Proofs.YtclmjmfcggkpaaaGreatDoorW.PrintMore
attribute [local go_sem] max2_int min2_int max_two min_two max_three min_three max_four min_four   -- for this text's walks alone
set_option linter.unusedVariables false
set_option linter.unusedSimpArgs false

/-! ### spec_HaveBraces: function 14 -/
def spec_HaveBraces.l0 : Nat → List (S65) → Int → Int → Option (Bool)
  | 0, _, _, _ => none
  | k + 1, x5, x6, x7 => if x7 < x6 then (if 0 ≤ x7 then (if x7 < (x5.length : Int) then ((spec_HasByte.f k ((rd_T65 x5 x7).f1) 123).bind fun t391 => (if t391 = true then (some true) else ((spec_HasByte.f k ((rd_T65 x5 x7).f1) 125).bind fun t392 => (if t392 = true then (some true) else (spec_HaveBraces.l0 k x5 x6 (wrap64 (x7 + 1))))))) else (none)) else (none)) else (some false)
def spec_HaveBraces.f (k : Nat) (l0 : List (S65)) : Option (Bool) := spec_HaveBraces.l0 k l0 (l0.length : Int) 0
theorem spec_HaveBraces.mono_l : ∀ k, (∀ y0 y1 y2, LeO (spec_HaveBraces.l0 k y0 y1 y2) (spec_HaveBraces.l0 (k + 1) y0 y1 y2))
  | 0 => fun _ _ _ r h => by simp [spec_HaveBraces.l0] at h
  | k + 1 => by
    have ih0 := spec_HaveBraces.mono_l k
    · intro y0 y1 y2
      unfold spec_HaveBraces.l0
      repeat' first
      | (with_reducible exact ih0 _ _ _)
      | (with_reducible exact spec_HasByte.mono _ _ _)
      | (with_reducible exact LeO.refl _)
      | (with_reducible exact LeO.none _)
      | (with_reducible refine LeO.ite ?_ ?_)
      | (with_reducible refine LeO.bind ?_ (fun _ => ?_))
      | exact ih0 _ _ _
      | exact spec_HasByte.mono _ _ _
      | exact LeO.none _
      | refine LeO.ite ?_ ?_
      | refine LeO.bind ?_ (fun _ => ?_)
theorem spec_HaveBraces.mono : ∀ a0 k, LeO (spec_HaveBraces.f k a0) (spec_HaveBraces.f (k + 1) a0) := by
  intro a0 k
  have ih0 := spec_HaveBraces.mono_l k
  unfold spec_HaveBraces.f
  repeat' first
      | (with_reducible exact ih0 _ _ _)
      | (with_reducible exact spec_HasByte.mono _ _ _)
      | (with_reducible exact LeO.refl _)
      | (with_reducible exact LeO.none _)
      | (with_reducible refine LeO.ite ?_ ?_)
      | (with_reducible refine LeO.bind ?_ (fun _ => ?_))
      | exact ih0 _ _ _
      | exact spec_HasByte.mono _ _ _
      | exact LeO.none _
      | refine LeO.ite ?_ ?_
      | refine LeO.bind ?_ (fun _ => ?_)
set_option maxHeartbeats 8000000 in
set_option maxRecDepth 100000 in
theorem spec_HaveBraces.calls (k : Nat) (A0 : Option Addr) (c0 : Nat) (l0 : List (S65)) (r : Bool) (w : World) (hr0 : Kd.C k65 w A0 l0.length l0) (hc0 : l0.length ≤ c0) (h : spec_HaveBraces.f k l0 = some r) :
    Calls Tryz.prog 14 #[.slice A0 l0.length c0] w fun e w' => e = .returned (.bool r) ∧ Below w.heap.size w w' := by
  have hu65 := Tryz.underlying65
  have HR0 := Aside0.mk hr0
  have HC0 := Aside0.mk hc0
  clear hr0 hc0
  have HB := Aside0.mk (Below.refl w.heap.size w)
  have H : (spec_HaveBraces.l0 k l0 (l0.length : Int) 0) = some r := h
  clear h
  have H' := Aside0.mk H
  clear H
  go_enter Tryz.func14, Tryz.ntmps14
  go_wp2
  go_loopg [7] k (fun kq v7 w' => ∃ (x7_1 : Int), v7 = .int .i64 x7_1 ∧ Aside0 (spec_HaveBraces.l0 kq l0 (l0.length : Int) x7_1 = some r) ∧ Aside0 (kq ≤ k) ∧ Aside0 (Below w.heap.size w w'))
  case atStart => exact ⟨(0), (by first | rfl | (simp; done) | (simp [*]; done)), H', ⟨Nat.le_refl _⟩, ⟨by repeat (first | (with_reducible first | exact HB.out | apply below_alloc | apply pw_below_drewN | apply below_drew1) | exact HB.out)⟩⟩
  case round =>
    clear H'
    try clear c1
    obtain ⟨x7_1, rfl, HA, HK1, HB⟩ := hrel
    cases gk with
    | zero => exact absurd HA.out (by simp [spec_HaveBraces.l0])
    | succ k1 =>
      have H := HA.out
      clear HA
      simp only [spec_HaveBraces.l0] at H
      by_cases c2 : x7_1 < (l0.length : Int)
      · rw [if_pos c2] at H
        have c2b0 : decide (x7_1 < (l0.length : Int)) = true := decide_eq_true c2
        clear c2
        by_cases c3 : 0 ≤ x7_1
        · rw [if_pos c3] at H
          have c3b0 : decide (0 ≤ x7_1) = true := decide_eq_true c3
          clear c3
          by_cases c4 : x7_1 < (l0.length : Int)
          · rw [if_pos c4] at H
            have c4b0 : decide (x7_1 < (l0.length : Int)) = true := decide_eq_true c4
            clear c4
            replace H := Option.bind_eq_some_iff.mp H
            obtain ⟨t391, A50, H⟩ := H
            replace H : (if t391 = true then (some true) else ((spec_HasByte.f k1 ((rd_T65 l0 x7_1).f1) 125).bind fun t392 => (if t392 = true then (some true) else (spec_HaveBraces.l0 k1 l0 (l0.length : Int) (wrap64 (x7_1 + 1)))))) = some r := H
            have A5 := Aside0.mk A50
            clear A50
            by_cases c6 : t391 = true
            · subst c6
              have H1 : (some true) = some r := by rw [if_pos rfl] at H; exact H
              clear H
              have H := H1
              clear H1
              obtain rfl := Option.some.inj H
              have p389 : 0 ≤ (x7_1 : Int) := of_decide_eq_true (by first | (with_reducible assumption) | assumption)
              have q389 : x7_1 < (l0.length : Int) := of_decide_eq_true (by first | (with_reducible assumption) | assumption)
              obtain ⟨ad389, e389, hx389_0, hx389_1, hx389_2⟩ := at_T65 HR0.out x7_1 p389 q389
              cases e389
              replace hx389_0 := (HB.out.cell (World.block_lt_of_cell? w _ hx389_0)).trans hx389_0
              replace hx389_1 := (HB.out.cell (World.block_lt_of_cell? w _ hx389_1)).trans hx389_1
              replace hx389_2 := (HB.out.cell (World.block_lt_of_cell? w _ hx389_2)).trans hx389_2
              replace p389 := eq_true p389
              replace q389 := eq_true q389
              go_wp2_with (first | ((with_reducible refine gate_dst (N := 4) rfl ?_); refine box_event ?hg (N := 4) ?hd (cs := #[.string (⟨#[]⟩ : ByteArray), .string (⟨#[]⟩ : ByteArray), .bool false]) (t := 65) ?hr ?_; (case hd => rfl); (case hg => rfl); (case hr => first | (go_simp; done) | (go_simp; rfl)); intro gb390 hg w7 hbox hb; have n0_ := Aside0.mk (below_step (by repeat (first | (with_reducible first | exact HB.out | apply below_alloc | apply pw_below_drewN | apply below_drew1) | exact HB.out)) hb); have n1_ := Aside0.mk (hbox); have n2_ := Aside0.mk ((by rw [hg]; exact (below_size (by repeat (first | (with_reducible first | exact HB.out | apply below_alloc | apply pw_below_drewN | apply below_drew1) | exact HB.out))) : w.heap.size ≤ gb390)); have n3_ := Aside0.mk ((by rw [hg]; exact (below_size (by repeat (first | (with_reducible first | exact HB.out | apply below_alloc | apply pw_below_drewN | apply below_drew1) | exact HB.out))) : w.heap.size ≤ gb390)); clear HB; have HB := n0_; have BK390 := n1_; have GW390 := n2_; have GE390 := n3_; clear n0_ n1_ n2_ n3_; clear hb hbox hg; have hcz8_0 : w7.cell? ⟨gb390, 0, none⟩ = some (.string (⟨#[]⟩ : ByteArray)) := (blk_cell BK390.out 0).trans rfl; have hcz8_1 : w7.cell? ⟨gb390, 1, none⟩ = some (.string (⟨#[]⟩ : ByteArray)) := (blk_cell BK390.out 1).trans rfl; have hcz8_2 : w7.cell? ⟨gb390, 2, none⟩ = some (.bool false) := (blk_cell BK390.out 2).trans rfl; have hfz8_0 := blk_frozen BK390.out 0; have hfz8_1 := blk_frozen BK390.out 1; have hfz8_2 := blk_frozen BK390.out 2) | ((with_reducible refine gate_callee (f := 32) rfl ?_); refine goesL_ (some 13) rfl rfl Tryz.func32 (by kernel_rfl) rfl #[.string ((rd_T65 l0 x7_1).f1), .int .u8 123] rfl (by (try simp only [List.map_toArray, List.map_cons, List.map_nil]); first | done | rfl | (simp only [List.length_drop, List.length_take]; rfl)) ?_; (with_reducible refine (spec_HasByte.calls k1 ((rd_T65 l0 x7_1).f1) 123 true _ A5.out).mono ?_); rintro e w' ⟨rfl, ⟨nd, rfl⟩⟩; refine ⟨_, rfl, ?_⟩))
              go_ret
              exact ⟨by first | rfl | (simp [errW_none, errW_some] <;> rfl) | (simp [*, errW_none, errW_some] <;> rfl), by repeat (first | (with_reducible first | exact HB.out | apply below_alloc | apply pw_below_drewN | apply below_drew1 | refine below_set ?_ GE390.out) | exact HB.out)⟩
            · replace c6 := Bool.eq_false_iff.mpr c6
              subst c6
              have H1 : ((spec_HasByte.f k1 ((rd_T65 l0 x7_1).f1) 125).bind fun t392 => (if t392 = true then (some true) else (spec_HaveBraces.l0 k1 l0 (l0.length : Int) (wrap64 (x7_1 + 1))))) = some r := by rw [if_neg (show ¬ (false = true) by decide)] at H; exact H
              clear H
              have H := H1
              clear H1
              replace H := Option.bind_eq_some_iff.mp H
              obtain ⟨t392, A90, H⟩ := H
              replace H : (if t392 = true then (some true) else (spec_HaveBraces.l0 k1 l0 (l0.length : Int) (wrap64 (x7_1 + 1)))) = some r := H
              have A9 := Aside0.mk A90
              clear A90
              by_cases c10 : t392 = true
              · subst c10
                have H1 : (some true) = some r := by rw [if_pos rfl] at H; exact H
                clear H
                have H := H1
                clear H1
                obtain rfl := Option.some.inj H
                have p389 : 0 ≤ (x7_1 : Int) := of_decide_eq_true (by first | (with_reducible assumption) | assumption)
                have q389 : x7_1 < (l0.length : Int) := of_decide_eq_true (by first | (with_reducible assumption) | assumption)
                obtain ⟨ad389, e389, hx389_0, hx389_1, hx389_2⟩ := at_T65 HR0.out x7_1 p389 q389
                cases e389
                replace hx389_0 := (HB.out.cell (World.block_lt_of_cell? w _ hx389_0)).trans hx389_0
                replace hx389_1 := (HB.out.cell (World.block_lt_of_cell? w _ hx389_1)).trans hx389_1
                replace hx389_2 := (HB.out.cell (World.block_lt_of_cell? w _ hx389_2)).trans hx389_2
                replace p389 := eq_true p389
                replace q389 := eq_true q389
                go_wp2_with (first | ((with_reducible refine gate_dst (N := 4) rfl ?_); refine box_event ?hg (N := 4) ?hd (cs := #[.string (⟨#[]⟩ : ByteArray), .string (⟨#[]⟩ : ByteArray), .bool false]) (t := 65) ?hr ?_; (case hd => rfl); (case hg => rfl); (case hr => first | (go_simp; done) | (go_simp; rfl)); intro gb390 hg w11 hbox hb; have n0_ := Aside0.mk (below_step (by repeat (first | (with_reducible first | exact HB.out | apply below_alloc | apply pw_below_drewN | apply below_drew1) | exact HB.out)) hb); have n1_ := Aside0.mk (hbox); have n2_ := Aside0.mk ((by rw [hg]; exact (below_size (by repeat (first | (with_reducible first | exact HB.out | apply below_alloc | apply pw_below_drewN | apply below_drew1) | exact HB.out))) : w.heap.size ≤ gb390)); have n3_ := Aside0.mk ((by rw [hg]; exact (below_size (by repeat (first | (with_reducible first | exact HB.out | apply below_alloc | apply pw_below_drewN | apply below_drew1) | exact HB.out))) : w.heap.size ≤ gb390)); clear HB; have HB := n0_; have BK390 := n1_; have GW390 := n2_; have GE390 := n3_; clear n0_ n1_ n2_ n3_; clear hb hbox hg; have hcz12_0 : w11.cell? ⟨gb390, 0, none⟩ = some (.string (⟨#[]⟩ : ByteArray)) := (blk_cell BK390.out 0).trans rfl; have hcz12_1 : w11.cell? ⟨gb390, 1, none⟩ = some (.string (⟨#[]⟩ : ByteArray)) := (blk_cell BK390.out 1).trans rfl; have hcz12_2 : w11.cell? ⟨gb390, 2, none⟩ = some (.bool false) := (blk_cell BK390.out 2).trans rfl; have hfz12_0 := blk_frozen BK390.out 0; have hfz12_1 := blk_frozen BK390.out 1; have hfz12_2 := blk_frozen BK390.out 2) | ((with_reducible refine gate_callee (f := 32) rfl ?_); refine goesL_ (some 13) rfl rfl Tryz.func32 (by kernel_rfl) rfl #[.string ((rd_T65 l0 x7_1).f1), .int .u8 123] rfl (by (try simp only [List.map_toArray, List.map_cons, List.map_nil]); first | done | rfl | (simp only [List.length_drop, List.length_take]; rfl)) ?_; (with_reducible refine (spec_HasByte.calls k1 ((rd_T65 l0 x7_1).f1) 123 false _ A5.out).mono ?_); rintro e w' ⟨rfl, ⟨nd, rfl⟩⟩; refine ⟨_, rfl, ?_⟩) | (go_at_call 32; (with_reducible refine (spec_HasByte.calls k1 ((rd_T65 l0 x7_1).f1) 125 true _ A9.out).mono ?_); rintro e w' ⟨rfl, ⟨nd, rfl⟩⟩))
                go_ret
                exact ⟨by first | rfl | (simp [errW_none, errW_some] <;> rfl) | (simp [*, errW_none, errW_some] <;> rfl), by repeat (first | (with_reducible first | exact HB.out | apply below_alloc | apply pw_below_drewN | apply below_drew1 | refine below_set ?_ GE390.out) | exact HB.out)⟩
              · replace c10 := Bool.eq_false_iff.mpr c10
                subst c10
                have H1 : (spec_HaveBraces.l0 k1 l0 (l0.length : Int) (wrap64 (x7_1 + 1))) = some r := by rw [if_neg (show ¬ (false = true) by decide)] at H; exact H
                clear H
                have H := H1
                clear H1
                have H' := Aside0.mk H
                clear H
                have p389 : 0 ≤ (x7_1 : Int) := of_decide_eq_true (by first | (with_reducible assumption) | assumption)
                have q389 : x7_1 < (l0.length : Int) := of_decide_eq_true (by first | (with_reducible assumption) | assumption)
                obtain ⟨ad389, e389, hx389_0, hx389_1, hx389_2⟩ := at_T65 HR0.out x7_1 p389 q389
                cases e389
                replace hx389_0 := (HB.out.cell (World.block_lt_of_cell? w _ hx389_0)).trans hx389_0
                replace hx389_1 := (HB.out.cell (World.block_lt_of_cell? w _ hx389_1)).trans hx389_1
                replace hx389_2 := (HB.out.cell (World.block_lt_of_cell? w _ hx389_2)).trans hx389_2
                replace p389 := eq_true p389
                replace q389 := eq_true q389
                go_wp2_with (first | ((with_reducible refine gate_dst (N := 4) rfl ?_); refine box_event ?hg (N := 4) ?hd (cs := #[.string (⟨#[]⟩ : ByteArray), .string (⟨#[]⟩ : ByteArray), .bool false]) (t := 65) ?hr ?_; (case hd => rfl); (case hg => rfl); (case hr => first | (go_simp; done) | (go_simp; rfl)); intro gb390 hg w13 hbox hb; have n0_ := Aside0.mk (below_step (by repeat (first | (with_reducible first | exact HB.out | apply below_alloc | apply pw_below_drewN | apply below_drew1) | exact HB.out)) hb); have n1_ := Aside0.mk (hbox); have n2_ := Aside0.mk ((by rw [hg]; exact (below_size (by repeat (first | (with_reducible first | exact HB.out | apply below_alloc | apply pw_below_drewN | apply below_drew1) | exact HB.out))) : w.heap.size ≤ gb390)); have n3_ := Aside0.mk ((by rw [hg]; exact (below_size (by repeat (first | (with_reducible first | exact HB.out | apply below_alloc | apply pw_below_drewN | apply below_drew1) | exact HB.out))) : w.heap.size ≤ gb390)); clear HB; have HB := n0_; have BK390 := n1_; have GW390 := n2_; have GE390 := n3_; clear n0_ n1_ n2_ n3_; clear hb hbox hg; have hcz14_0 : w13.cell? ⟨gb390, 0, none⟩ = some (.string (⟨#[]⟩ : ByteArray)) := (blk_cell BK390.out 0).trans rfl; have hcz14_1 : w13.cell? ⟨gb390, 1, none⟩ = some (.string (⟨#[]⟩ : ByteArray)) := (blk_cell BK390.out 1).trans rfl; have hcz14_2 : w13.cell? ⟨gb390, 2, none⟩ = some (.bool false) := (blk_cell BK390.out 2).trans rfl; have hfz14_0 := blk_frozen BK390.out 0; have hfz14_1 := blk_frozen BK390.out 1; have hfz14_2 := blk_frozen BK390.out 2) | ((with_reducible refine gate_callee (f := 32) rfl ?_); refine goesL_ (some 13) rfl rfl Tryz.func32 (by kernel_rfl) rfl #[.string ((rd_T65 l0 x7_1).f1), .int .u8 123] rfl (by (try simp only [List.map_toArray, List.map_cons, List.map_nil]); first | done | rfl | (simp only [List.length_drop, List.length_take]; rfl)) ?_; (with_reducible refine (spec_HasByte.calls k1 ((rd_T65 l0 x7_1).f1) 123 false _ A5.out).mono ?_); rintro e w' ⟨rfl, ⟨nd, rfl⟩⟩; refine ⟨_, rfl, ?_⟩) | (go_at_call 32; (with_reducible refine (spec_HasByte.calls k1 ((rd_T65 l0 x7_1).f1) 125 false _ A9.out).mono ?_); rintro e w' ⟨rfl, ⟨nd, rfl⟩⟩))
                go_roundg k1
                case measure => have := HK1.out; omega
                case rel => exact ⟨(wrap64 (x7_1 + 1)), (by first | rfl | (simp; done) | (simp [*]; done)), H', ⟨by have := HK1.out; omega⟩, ⟨by repeat (first | (with_reducible first | exact HB.out | apply below_alloc | apply pw_below_drewN | apply below_drew1 | refine below_set ?_ GE390.out) | exact HB.out)⟩⟩
          · rw [if_neg c4] at H
            exact absurd H (by simp)
        · rw [if_neg c3] at H
          exact absurd H (by simp)
      · rw [if_neg c2] at H
        have c2b0 : decide (x7_1 < (l0.length : Int)) = false := decide_eq_false c2
        clear c2
        obtain rfl := Option.some.inj H
        go_wp2
        go_ret
        exact ⟨by first | rfl | (simp [errW_none, errW_some] <;> rfl) | (simp [*, errW_none, errW_some] <;> rfl), by repeat (first | (with_reducible first | exact HB.out | apply below_alloc | apply pw_below_drewN | apply below_drew1) | exact HB.out)⟩

end Go.Proofs.YtclmjmfcggkpaaaGreatDoor.PX
