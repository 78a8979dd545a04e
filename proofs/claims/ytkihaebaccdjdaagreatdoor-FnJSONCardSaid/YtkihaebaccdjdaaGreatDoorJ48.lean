import Derived.Test.YtkihaebaccdjdaaGreatDoorJ19
import Derived.Test.YtkihaebaccdjdaaGreatDoorJ25
import Derived.Test.YtkihaebaccdjdaaGreatDoorJ4
set_option linter.unusedVariables false
set_option linter.unusedSimpArgs false
namespace Go.Proofs.YtkihaebaccdjdaaGreatDoor
open Go.RowKit Go.Proofs.YtkihaebaccdjdaaGreatDoorW.PrintWords Go.Proofs.YtkihaebaccdjdaaGreatDoorW.PrintLast Go.Proofs.YtkihaebaccdjdaaGreatDoorW.PrintMore
namespace PX
/-! ### For the printer: areChars, IsUTF8, Text of a text -/
def spec_areChars.f (a0 : ByteArray) : Option Bool := if a0.size ≤ 2147483647 then some (H.runes H.charB (a0.size + 1) (bytesOf a0)) else none
def spec_IsUTF8.f (a0 : ByteArray) : Option Bool := if a0.size ≤ 2147483647 then some (H.runes (fun _ => true) (a0.size + 1) (bytesOf a0)) else none
theorem spec_IsUTF8.calls (a0 : ByteArray) (r1 : Bool) (w : World) (h : spec_IsUTF8.f a0 = some r1) :
 Calls Tryz.prog 23 #[.string a0] w fun e w' => e = .returned (.bool r1) ∧ Below w.heap.size w w' := by
 unfold spec_IsUTF8.f at h
 split at h
 ·rename_i hs
  obtain rfl := Option.some.inj h
  exact H.isU a0 w hs
 ·cases h
def spec_Text.f (a0 : Int) (a1 : ByteArray) (a2 : Int) : Option ByteArray := if a0 = 0 then some a1 else none
end PX
end Go.Proofs.YtkihaebaccdjdaaGreatDoor
namespace Go.Proofs.YtkihaebaccdjdaaGreatDoor.PX
open Go.RowKit Go.Proofs.YtkihaebaccdjdaaGreatDoorW.PrintWords Go.Proofs.YtkihaebaccdjdaaGreatDoorW.PrintLast Go.Proofs.YtkihaebaccdjdaaGreatDoorW.PrintMore
attribute [local go_sem] max2_int min2_int max_two min_two max_three min_three max_four min_four   -- for this text's walks alone
set_option linter.unusedVariables false
set_option linter.unusedSimpArgs false

/-! ### spec_isPlain: function 128 -/
def spec_isPlain.l0 : Nat → List ByteArray → Int → Int → Int → ByteArray → Int → List ByteArray → List (S28) → List Bool → ByteArray → ByteArray → ByteArray → List (S45) → Option (Bool)
  | 0, _, _, _, _, _, _, _, _, _, _, _, _, _ => none
  | k + 1, x6, x7, x8, x709000, x709001, x709002, x709003, x709004, x709005, x709006, x709007, x709008, x709009 => if x8 < x7 then (if 0 ≤ x8 then (if x8 < (x6.length : Int) then ((spec_IsUTF8.f (rdOf ByteArray.empty x6 x8)).bind fun t710 => (if t710 = true then (spec_isPlain.l0 k x6 x7 (wrap64 (x8 + 1)) x709000 x709001 x709002 x709003 x709004 x709005 x709006 x709007 x709008 x709009) else (some false))) else (none)) else (none)) else (if x709000 = 0 then ((spec_IsUTF8.f x709001).bind fun t711 => (some t711)) else (some true))
def spec_isPlain.f (k : Nat) (a0_0 : Int) (a0_1 : ByteArray) (a0_2 : Int) (l0_3 : List ByteArray) (l0_4 : List (S28)) (l0_5 : List Bool) (a0_6 : ByteArray) (a0_7 : ByteArray) (a0_8 : ByteArray) (l0_9 : List (S45)) : Option (Bool) := spec_isPlain.l0 k l0_3 (l0_3.length : Int) 0 a0_0 a0_1 a0_2 l0_3 l0_4 l0_5 a0_6 a0_7 a0_8 l0_9
set_option maxHeartbeats 8000000 in
set_option maxRecDepth 100000 in
theorem spec_isPlain.calls (k : Nat) (a0_0 : Int) (a0_1 : ByteArray) (a0_2 : Int) (A0_3 : Option Addr) (c0_3 : Nat) (l0_3 : List ByteArray) (A0_4 : Option Addr) (c0_4 : Nat) (l0_4 : List (S28)) (A0_5 : Option Addr) (c0_5 : Nat) (l0_5 : List Bool) (a0_6 : ByteArray) (a0_7 : ByteArray) (a0_8 : ByteArray) (A0_9 : Option Addr) (c0_9 : Nat) (l0_9 : List (S45)) (r : Bool) (w : World) (hr0_3 : Kd.C Kd.string w A0_3 l0_3.length l0_3) (hc0_3 : l0_3.length ≤ c0_3) (hr0_4 : Kd.C k28 w A0_4 l0_4.length l0_4) (hc0_4 : l0_4.length ≤ c0_4) (hr0_5 : Kd.C Kd.bool w A0_5 l0_5.length l0_5) (hc0_5 : l0_5.length ≤ c0_5) (hr0_9 : Kd.C k45 w A0_9 l0_9.length l0_9) (hc0_9 : l0_9.length ≤ c0_9) (h : spec_isPlain.f k a0_0 a0_1 a0_2 l0_3 l0_4 l0_5 a0_6 a0_7 a0_8 l0_9 = some r) :
    Calls Tryz.prog 128 #[.agg #[.int .i64 a0_0, .string a0_1, .int .i64 a0_2, .slice A0_3 l0_3.length c0_3, .slice A0_4 l0_4.length c0_4, .slice A0_5 l0_5.length c0_5, .string a0_6, .string a0_7, .string a0_8, .slice A0_9 l0_9.length c0_9]] w fun e w' => e = .returned (.bool r) ∧ Below w.heap.size w w' := by
  have hu28 := Tryz.underlying28
  have HR0_3 := Aside0.mk hr0_3
  have HC0_3 := Aside0.mk hc0_3
  clear hr0_3 hc0_3
  have HR0_4 := Aside0.mk hr0_4
  have HC0_4 := Aside0.mk hc0_4
  clear hr0_4 hc0_4
  have HR0_5 := Aside0.mk hr0_5
  have HC0_5 := Aside0.mk hc0_5
  clear hr0_5 hc0_5
  have HR0_9 := Aside0.mk hr0_9
  have HC0_9 := Aside0.mk hc0_9
  clear hr0_9 hc0_9
  have HB := Aside0.mk (Below.refl w.heap.size w)
  have H : (spec_isPlain.l0 k l0_3 (l0_3.length : Int) 0 a0_0 a0_1 a0_2 l0_3 l0_4 l0_5 a0_6 a0_7 a0_8 l0_9) = some r := h
  clear h
  have H' := Aside0.mk H
  clear H
  go_enter Tryz.func128, Tryz.ntmps128
  go_wp2_with (first | ((with_reducible refine gate_dst (N := 1) rfl ?_); refine box_event ?hg (N := 1) ?hd (cs := #[.int .i64 a0_0, .string a0_1, .int .i64 a0_2, .slice A0_3 l0_3.length c0_3, .slice A0_4 l0_4.length c0_4, .slice A0_5 l0_5.length c0_5, .string a0_6, .string a0_7, .string a0_8, .slice A0_9 l0_9.length c0_9]) (t := 28) ?hr ?_; (case hd => rfl); (case hg => rfl); (case hr => first | (go_simp; done) | (go_simp; rfl)); intro gb708 hg w2 hbox hb; have n0_ := Aside0.mk (below_step (by repeat (first | (with_reducible first | exact HB.out | apply below_alloc | apply pw_below_drewN | apply below_drew1) | exact HB.out)) hb); have n1_ := Aside0.mk (hbox); have n2_ := Aside0.mk ((by rw [hg]; exact (below_size (by repeat (first | (with_reducible first | exact HB.out | apply below_alloc | apply pw_below_drewN | apply below_drew1) | exact HB.out))) : w.heap.size ≤ gb708)); have n3_ := Aside0.mk ((by rw [hg]; exact (below_size (by repeat (first | (with_reducible first | exact HB.out | apply below_alloc | apply pw_below_drewN | apply below_drew1) | exact HB.out))) : w.heap.size ≤ gb708)); clear HB; have HB := n0_; have BK708 := n1_; have GW708 := n2_; have GE708 := n3_; clear n0_ n1_ n2_ n3_; clear hb hbox hg; have hcz3_0 : w2.cell? ⟨gb708, 0, none⟩ = some (.int .i64 a0_0) := (blk_cell BK708.out 0).trans rfl; have hcz3_1 : w2.cell? ⟨gb708, 1, none⟩ = some (.string a0_1) := (blk_cell BK708.out 1).trans rfl; have hcz3_2 : w2.cell? ⟨gb708, 2, none⟩ = some (.int .i64 a0_2) := (blk_cell BK708.out 2).trans rfl; have hcz3_3 : w2.cell? ⟨gb708, 3, none⟩ = some (.slice A0_3 l0_3.length c0_3) := (blk_cell BK708.out 3).trans rfl; have hcz3_4 : w2.cell? ⟨gb708, 4, none⟩ = some (.slice A0_4 l0_4.length c0_4) := (blk_cell BK708.out 4).trans rfl; have hcz3_5 : w2.cell? ⟨gb708, 5, none⟩ = some (.slice A0_5 l0_5.length c0_5) := (blk_cell BK708.out 5).trans rfl; have hcz3_6 : w2.cell? ⟨gb708, 6, none⟩ = some (.string a0_6) := (blk_cell BK708.out 6).trans rfl; have hcz3_7 : w2.cell? ⟨gb708, 7, none⟩ = some (.string a0_7) := (blk_cell BK708.out 7).trans rfl; have hcz3_8 : w2.cell? ⟨gb708, 8, none⟩ = some (.string a0_8) := (blk_cell BK708.out 8).trans rfl; have hcz3_9 : w2.cell? ⟨gb708, 9, none⟩ = some (.slice A0_9 l0_9.length c0_9) := (blk_cell BK708.out 9).trans rfl; have hfz3_0 := blk_frozen BK708.out 0; have hfz3_1 := blk_frozen BK708.out 1; have hfz3_2 := blk_frozen BK708.out 2; have hfz3_3 := blk_frozen BK708.out 3; have hfz3_4 := blk_frozen BK708.out 4; have hfz3_5 := blk_frozen BK708.out 5; have hfz3_6 := blk_frozen BK708.out 6; have hfz3_7 := blk_frozen BK708.out 7; have hfz3_8 := blk_frozen BK708.out 8; have hfz3_9 := blk_frozen BK708.out 9))
  go_loopg [8] k (fun kq v8 w' => ∃ (x8_1 : Int), v8 = .int .i64 x8_1 ∧ Aside0 (spec_isPlain.l0 kq l0_3 (l0_3.length : Int) x8_1 a0_0 a0_1 a0_2 l0_3 l0_4 l0_5 a0_6 a0_7 a0_8 l0_9 = some r) ∧ Aside0 (kq ≤ k) ∧ Aside0 (w'.heap[gb708]? = some (.cells #[.int .i64 a0_0, .string a0_1, .int .i64 a0_2, (.slice A0_3 l0_3.length c0_3), (.slice A0_4 l0_4.length c0_4), (.slice A0_5 l0_5.length c0_5), .string a0_6, .string a0_7, .string a0_8, (.slice A0_9 l0_9.length c0_9)] 28 (0, 0))) ∧ Aside0 (Below w.heap.size w w'))
  case atStart => exact ⟨(0), (by first | rfl | (simp; done) | (simp [*]; done)), H', ⟨Nat.le_refl _⟩, ⟨by (with_reducible repeat (first | refine blk_drewN ?_ _ | refine blk_drew ?_ | refine blk_alloc ?_ _)); exact BK708.out⟩, ⟨by repeat (first | (with_reducible first | exact HB.out | apply below_alloc | apply pw_below_drewN | apply below_drew1 | refine below_set ?_ GE708.out) | exact HB.out)⟩⟩
  case round =>
    clear H'
    try clear c1
    try clear p2
    try clear hcz3_0
    try clear hcz3_1
    try clear hcz3_2
    try clear hcz3_3
    try clear hcz3_4
    try clear hcz3_5
    try clear hcz3_6
    try clear hcz3_7
    try clear hcz3_8
    try clear hcz3_9
    try clear hfz3_0
    try clear hfz3_1
    try clear hfz3_2
    try clear hfz3_3
    try clear hfz3_4
    try clear hfz3_5
    try clear hfz3_6
    try clear hfz3_7
    try clear hfz3_8
    try clear hfz3_9
    obtain ⟨x8_1, rfl, HA, HK1, BK708, HB⟩ := hrel
    cases gk with
    | zero => exact absurd HA.out (by simp [spec_isPlain.l0])
    | succ k1 =>
      have H := HA.out
      clear HA
      simp only [spec_isPlain.l0] at H
      by_cases c4 : x8_1 < (l0_3.length : Int)
      · rw [if_pos c4] at H
        have c4b0 : decide (x8_1 < (l0_3.length : Int)) = true := decide_eq_true c4
        clear c4
        by_cases c5 : 0 ≤ x8_1
        · rw [if_pos c5] at H
          have c5b0 : decide (0 ≤ x8_1) = true := decide_eq_true c5
          clear c5
          by_cases c6 : x8_1 < (l0_3.length : Int)
          · rw [if_pos c6] at H
            have c6b0 : decide (x8_1 < (l0_3.length : Int)) = true := decide_eq_true c6
            clear c6
            replace H := Option.bind_eq_some_iff.mp H
            obtain ⟨t710, A70, H⟩ := H
            replace H : (if t710 = true then (spec_isPlain.l0 k1 l0_3 (l0_3.length : Int) (wrap64 (x8_1 + 1)) a0_0 a0_1 a0_2 l0_3 l0_4 l0_5 a0_6 a0_7 a0_8 l0_9) else (some false)) = some r := H
            have A7 := Aside0.mk A70
            clear A70
            by_cases c8 : t710 = true
            · subst c8
              have H1 : (spec_isPlain.l0 k1 l0_3 (l0_3.length : Int) (wrap64 (x8_1 + 1)) a0_0 a0_1 a0_2 l0_3 l0_4 l0_5 a0_6 a0_7 a0_8 l0_9) = some r := by rw [if_pos rfl] at H; exact H
              clear H
              have H := H1
              clear H1
              have H' := Aside0.mk H
              clear H
              have p709 : 0 ≤ (x8_1 : Int) := of_decide_eq_true (by first | (with_reducible assumption) | assumption)
              have q709 : x8_1 < (l0_3.length : Int) := of_decide_eq_true (by first | (with_reducible assumption) | assumption)
              obtain ⟨ad709, e709, hx709_0⟩ := Kd.at_string HR0_3.out x8_1 p709 q709
              cases e709
              replace hx709_0 := (HB.out.cell (World.block_lt_of_cell? w _ hx709_0)).trans hx709_0
              replace p709 := eq_true p709
              replace q709 := eq_true q709
              go_wp2_with (first | ((with_reducible refine gate_callee (f := 23) rfl ?_); refine goesL_ (some 13) rfl rfl Tryz.func23 (by kernel_rfl) rfl #[.string (rdOf ByteArray.empty l0_3 x8_1)] rfl (by (try simp only [List.map_toArray, List.map_cons, List.map_nil]); first | done | rfl | (simp only [List.length_drop, List.length_take]; rfl)) ?_; (with_reducible refine (spec_IsUTF8.calls (rdOf ByteArray.empty l0_3 x8_1) true _ A7.out).mono ?_); rintro e w9 ⟨rfl, hb⟩; refine ⟨_, rfl, ?_⟩; have n0_ := Aside0.mk (blk_below (g := gb708) (o := .cells #[.int .i64 a0_0, .string a0_1, .int .i64 a0_2, .slice (some ad709) l0_3.length c0_3, .slice A0_4 l0_4.length c0_4, .slice A0_5 l0_5.length c0_5, .string a0_6, .string a0_7, .string a0_8, .slice A0_9 l0_9.length c0_9] 28 (0, 0)) (by (with_reducible repeat (first | refine blk_drewN ?_ _ | refine blk_drew ?_ | refine blk_alloc ?_ _)); exact BK708.out) hb); have n1_ := Aside0.mk (below_step (by repeat (first | (with_reducible first | exact HB.out | apply below_alloc | apply pw_below_drewN | apply below_drew1 | refine below_set ?_ GE708.out) | exact HB.out)) hb); clear BK708; clear HB; have BK708 := n0_; have HB := n1_; clear n0_ n1_; (try clear hb); (try clear hb2); (try clear hk); (try clear hi)))
              go_roundg k1
              case measure => have := HK1.out; omega
              case rel => exact ⟨(wrap64 (x8_1 + 1)), (by first | rfl | (simp; done) | (simp [*]; done)), H', ⟨by have := HK1.out; omega⟩, ⟨by (with_reducible repeat (first | refine blk_drewN ?_ _ | refine blk_drew ?_ | refine blk_alloc ?_ _)); exact BK708.out⟩, ⟨by repeat (first | (with_reducible first | exact HB.out | apply below_alloc | apply pw_below_drewN | apply below_drew1 | refine below_set ?_ GE708.out) | exact HB.out)⟩⟩
            · replace c8 := Bool.eq_false_iff.mpr c8
              subst c8
              have H1 : (some false) = some r := by rw [if_neg (show ¬ (false = true) by decide)] at H; exact H
              clear H
              have H := H1
              clear H1
              obtain rfl := Option.some.inj H
              have p709 : 0 ≤ (x8_1 : Int) := of_decide_eq_true (by first | (with_reducible assumption) | assumption)
              have q709 : x8_1 < (l0_3.length : Int) := of_decide_eq_true (by first | (with_reducible assumption) | assumption)
              obtain ⟨ad709, e709, hx709_0⟩ := Kd.at_string HR0_3.out x8_1 p709 q709
              cases e709
              replace hx709_0 := (HB.out.cell (World.block_lt_of_cell? w _ hx709_0)).trans hx709_0
              replace p709 := eq_true p709
              replace q709 := eq_true q709
              go_wp2_with (first | ((with_reducible refine gate_callee (f := 23) rfl ?_); refine goesL_ (some 13) rfl rfl Tryz.func23 (by kernel_rfl) rfl #[.string (rdOf ByteArray.empty l0_3 x8_1)] rfl (by (try simp only [List.map_toArray, List.map_cons, List.map_nil]); first | done | rfl | (simp only [List.length_drop, List.length_take]; rfl)) ?_; (with_reducible refine (spec_IsUTF8.calls (rdOf ByteArray.empty l0_3 x8_1) false _ A7.out).mono ?_); rintro e w10 ⟨rfl, hb⟩; refine ⟨_, rfl, ?_⟩; have n0_ := Aside0.mk (blk_below (g := gb708) (o := .cells #[.int .i64 a0_0, .string a0_1, .int .i64 a0_2, .slice (some ad709) l0_3.length c0_3, .slice A0_4 l0_4.length c0_4, .slice A0_5 l0_5.length c0_5, .string a0_6, .string a0_7, .string a0_8, .slice A0_9 l0_9.length c0_9] 28 (0, 0)) (by (with_reducible repeat (first | refine blk_drewN ?_ _ | refine blk_drew ?_ | refine blk_alloc ?_ _)); exact BK708.out) hb); have n1_ := Aside0.mk (below_step (by repeat (first | (with_reducible first | exact HB.out | apply below_alloc | apply pw_below_drewN | apply below_drew1 | refine below_set ?_ GE708.out) | exact HB.out)) hb); clear BK708; clear HB; have BK708 := n0_; have HB := n1_; clear n0_ n1_; (try clear hb); (try clear hb2); (try clear hk); (try clear hi)))
              go_ret
              exact ⟨by first | rfl | (simp [errW_none, errW_some] <;> rfl) | (simp [*, errW_none, errW_some] <;> rfl), by repeat (first | (with_reducible first | exact HB.out | apply below_alloc | apply pw_below_drewN | apply below_drew1 | refine below_set ?_ GE708.out) | exact HB.out)⟩
          · rw [if_neg c6] at H
            exact absurd H (by simp)
        · rw [if_neg c5] at H
          exact absurd H (by simp)
      · rw [if_neg c4] at H
        have c4b0 : decide (x8_1 < (l0_3.length : Int)) = false := decide_eq_false c4
        clear c4
        by_cases c11 : a0_0 = 0
        · rw [if_pos c11] at H
          have c11b0 : (a0_0 == 0) = true := beq_iff_eq.mpr c11
          have c11b1 : (a0_0 != 0) = false := bne_eq_false_iff_eq.mpr c11
          clear c11
          replace H := Option.bind_eq_some_iff.mp H
          obtain ⟨t711, A120, H⟩ := H
          replace H : (some t711) = some r := H
          have A12 := Aside0.mk A120
          clear A120
          obtain rfl := Option.some.inj H
          have hcz13_0 : wr.cell? ⟨gb708, 0, none⟩ = some (.int .i64 a0_0) := (blk_cell BK708.out 0).trans rfl
          have hcz13_1 : wr.cell? ⟨gb708, 1, none⟩ = some (.string a0_1) := (blk_cell BK708.out 1).trans rfl
          have hcz13_2 : wr.cell? ⟨gb708, 2, none⟩ = some (.int .i64 a0_2) := (blk_cell BK708.out 2).trans rfl
          have hcz13_3 : wr.cell? ⟨gb708, 3, none⟩ = some (.slice A0_3 l0_3.length c0_3) := (blk_cell BK708.out 3).trans rfl
          have hcz13_4 : wr.cell? ⟨gb708, 4, none⟩ = some (.slice A0_4 l0_4.length c0_4) := (blk_cell BK708.out 4).trans rfl
          have hcz13_5 : wr.cell? ⟨gb708, 5, none⟩ = some (.slice A0_5 l0_5.length c0_5) := (blk_cell BK708.out 5).trans rfl
          have hcz13_6 : wr.cell? ⟨gb708, 6, none⟩ = some (.string a0_6) := (blk_cell BK708.out 6).trans rfl
          have hcz13_7 : wr.cell? ⟨gb708, 7, none⟩ = some (.string a0_7) := (blk_cell BK708.out 7).trans rfl
          have hcz13_8 : wr.cell? ⟨gb708, 8, none⟩ = some (.string a0_8) := (blk_cell BK708.out 8).trans rfl
          have hcz13_9 : wr.cell? ⟨gb708, 9, none⟩ = some (.slice A0_9 l0_9.length c0_9) := (blk_cell BK708.out 9).trans rfl
          have hfz13_0 := blk_frozen BK708.out 0
          have hfz13_1 := blk_frozen BK708.out 1
          have hfz13_2 := blk_frozen BK708.out 2
          have hfz13_3 := blk_frozen BK708.out 3
          have hfz13_4 := blk_frozen BK708.out 4
          have hfz13_5 := blk_frozen BK708.out 5
          have hfz13_6 := blk_frozen BK708.out 6
          have hfz13_7 := blk_frozen BK708.out 7
          have hfz13_8 := blk_frozen BK708.out 8
          have hfz13_9 := blk_frozen BK708.out 9
          go_wp2_with (first | (go_at_call 23; (with_reducible refine (spec_IsUTF8.calls a0_1 t711 _ A12.out).mono ?_); rintro e w14 ⟨rfl, hb⟩; have n0_ := Aside0.mk (blk_below (g := gb708) (o := .cells #[.int .i64 a0_0, .string a0_1, .int .i64 a0_2, .slice A0_3 l0_3.length c0_3, .slice A0_4 l0_4.length c0_4, .slice A0_5 l0_5.length c0_5, .string a0_6, .string a0_7, .string a0_8, .slice A0_9 l0_9.length c0_9] 28 (0, 0)) (by (with_reducible repeat (first | refine blk_drewN ?_ _ | refine blk_drew ?_ | refine blk_alloc ?_ _)); exact BK708.out) hb); have n1_ := Aside0.mk (below_step (by repeat (first | (with_reducible first | exact HB.out | apply below_alloc | apply pw_below_drewN | apply below_drew1 | refine below_set ?_ GE708.out) | exact HB.out)) hb); clear BK708; clear HB; have BK708 := n0_; have HB := n1_; clear n0_ n1_; (try clear hb); (try clear hb2); (try clear hk); (try clear hi)))
          go_ret
          exact ⟨by first | rfl | (simp [errW_none, errW_some] <;> rfl) | (simp [*, errW_none, errW_some] <;> rfl), by repeat (first | (with_reducible first | exact HB.out | apply below_alloc | apply pw_below_drewN | apply below_drew1 | refine below_set ?_ GE708.out) | exact HB.out)⟩
        · rw [if_neg c11] at H
          have c11b0 : (a0_0 == 0) = false := beq_eq_false_iff_ne.mpr c11
          have c11b1 : (a0_0 != 0) = true := bne_iff_ne.mpr c11
          obtain rfl := Option.some.inj H
          have hcz15_0 : wr.cell? ⟨gb708, 0, none⟩ = some (.int .i64 a0_0) := (blk_cell BK708.out 0).trans rfl
          have hcz15_1 : wr.cell? ⟨gb708, 1, none⟩ = some (.string a0_1) := (blk_cell BK708.out 1).trans rfl
          have hcz15_2 : wr.cell? ⟨gb708, 2, none⟩ = some (.int .i64 a0_2) := (blk_cell BK708.out 2).trans rfl
          have hcz15_3 : wr.cell? ⟨gb708, 3, none⟩ = some (.slice A0_3 l0_3.length c0_3) := (blk_cell BK708.out 3).trans rfl
          have hcz15_4 : wr.cell? ⟨gb708, 4, none⟩ = some (.slice A0_4 l0_4.length c0_4) := (blk_cell BK708.out 4).trans rfl
          have hcz15_5 : wr.cell? ⟨gb708, 5, none⟩ = some (.slice A0_5 l0_5.length c0_5) := (blk_cell BK708.out 5).trans rfl
          have hcz15_6 : wr.cell? ⟨gb708, 6, none⟩ = some (.string a0_6) := (blk_cell BK708.out 6).trans rfl
          have hcz15_7 : wr.cell? ⟨gb708, 7, none⟩ = some (.string a0_7) := (blk_cell BK708.out 7).trans rfl
          have hcz15_8 : wr.cell? ⟨gb708, 8, none⟩ = some (.string a0_8) := (blk_cell BK708.out 8).trans rfl
          have hcz15_9 : wr.cell? ⟨gb708, 9, none⟩ = some (.slice A0_9 l0_9.length c0_9) := (blk_cell BK708.out 9).trans rfl
          have hfz15_0 := blk_frozen BK708.out 0
          have hfz15_1 := blk_frozen BK708.out 1
          have hfz15_2 := blk_frozen BK708.out 2
          have hfz15_3 := blk_frozen BK708.out 3
          have hfz15_4 := blk_frozen BK708.out 4
          have hfz15_5 := blk_frozen BK708.out 5
          have hfz15_6 := blk_frozen BK708.out 6
          have hfz15_7 := blk_frozen BK708.out 7
          have hfz15_8 := blk_frozen BK708.out 8
          have hfz15_9 := blk_frozen BK708.out 9
          go_wp2
          go_ret
          exact ⟨by first | rfl | (simp [errW_none, errW_some] <;> rfl) | (simp [*, errW_none, errW_some] <;> rfl), by repeat (first | (with_reducible first | exact HB.out | apply below_alloc | apply pw_below_drewN | apply below_drew1 | refine below_set ?_ GE708.out) | exact HB.out)⟩

end Go.Proofs.YtkihaebaccdjdaaGreatDoor.PX
