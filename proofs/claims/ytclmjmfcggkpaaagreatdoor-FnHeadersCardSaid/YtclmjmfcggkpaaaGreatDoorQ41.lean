import Derived.Test.YtclmjmfcggkpaaaGreatDoorQ5
import Derived.Test.YtclmjmfcggkpaaaGreatDoorQ40
import Derived.Test.YtclmjmfcggkpaaaGreatDoorQ30
import Derived.Test.YtclmjmfcggkpaaaGreatDoorQ35
namespace Go.Proofs.YtclmjmfcggkpaaaGreatDoor.PX
open Go.RowKit Go.Proofs.YtclmjmfcggkpaaaGreatDoorW.PrintWords Go.Proofs.YtclmjmfcggkpaaaGreatDoorW.PrintLast Go.Proofs.YtclmjmfcggkpaaaGreatDoorW.PrintMore
attribute [local go_sem] max2_int min2_int max_two min_two max_three min_three max_four min_four   -- for this text's walks alone
set_option linter.unusedVariables false
set_option linter.unusedSimpArgs false

/-! ### laws_zzFits5: function 27 -/
def laws_zzFits5.l0 : Nat → List (S73) → Int → Int → Option (Bool)
 | 0, _, _, _ => none
 | k + 1, x8, x9, x10 => if x10 < x9 then (if 0 ≤ x10 then (if x10 < (x8.length : Int) then ((laws_zzFits6.f k ((rd_T73 x8 x10).f0) ((rd_T73 x8 x10).f1)).bind fun t295 => (if t295 = true then (laws_zzFits5.l0 k x8 x9 (wrap64 (x10 + 1))) else (some false))) else (none)) else (none)) else (some true)
def laws_zzFits5.f (k : Nat) (l0 : List (S73)) : Option (Bool) := if (l0.length : Int) > 2147483647 then (some false) else (laws_zzFits5.l0 k l0 (l0.length : Int) 0)
theorem laws_zzFits5.mono_l : ∀ k, (∀ y0 y1 y2, LeO (laws_zzFits5.l0 k y0 y1 y2) (laws_zzFits5.l0 (k + 1) y0 y1 y2))
 | 0 => fun _ _ _ r h => by simp [laws_zzFits5.l0] at h
 | k + 1 => by
   have ih0 := laws_zzFits5.mono_l k
   ·intro y0 y1 y2
    unfold laws_zzFits5.l0
    repeat' first
    | (with_reducible exact ih0 _ _ _)
    | (with_reducible exact laws_zzFits6.mono _ _ _)
    | (with_reducible exact LeO.refl _)
    | (with_reducible exact LeO.none _)
    | (with_reducible refine LeO.ite ?_ ?_)
    | (with_reducible refine LeO.bind ?_ (fun _ => ?_))
    | exact ih0 _ _ _
    | exact laws_zzFits6.mono _ _ _
    | exact LeO.none _
    | refine LeO.ite ?_ ?_
    | refine LeO.bind ?_ (fun _ => ?_)
theorem laws_zzFits5.mono : ∀ a0 k, LeO (laws_zzFits5.f k a0) (laws_zzFits5.f (k + 1) a0) := by
 intro a0 k
 have ih0 := laws_zzFits5.mono_l k
 unfold laws_zzFits5.f
 repeat' first
  | (with_reducible exact ih0 _ _ _)
  | (with_reducible exact laws_zzFits6.mono _ _ _)
  | (with_reducible exact LeO.refl _)
  | (with_reducible exact LeO.none _)
  | (with_reducible refine LeO.ite ?_ ?_)
  | (with_reducible refine LeO.bind ?_ (fun _ => ?_))
  | exact ih0 _ _ _
  | exact laws_zzFits6.mono _ _ _
  | exact LeO.none _
  | refine LeO.ite ?_ ?_
  | refine LeO.bind ?_ (fun _ => ?_)
set_option maxHeartbeats 8000000 in
set_option maxRecDepth 100000 in
theorem laws_zzFits5.calls (k : Nat) (A0 : Option Addr) (c0 : Nat) (l0 : List (S73)) (r : Bool) (w : World) (hr0 : Kd.C k73 w A0 l0.length l0) (hc0 : l0.length ≤ c0) (h : laws_zzFits5.f k l0 = some r) :
 Calls Tryz.prog 27 #[.slice A0 l0.length c0] w fun e w' => e = .returned (.bool r) ∧ Below w.heap.size w w' := by
 have hu73 := Tryz.underlying73
 have HR0 := Aside0.mk hr0
 have HC0 := Aside0.mk hc0
 clear hr0 hc0
 have HB := Aside0.mk (Below.refl w.heap.size w)
 have H : (if (l0.length : Int) > 2147483647 then (some false) else (laws_zzFits5.l0 k l0 (l0.length : Int) 0)) = some r := h
 clear h
 by_cases c2 : (l0.length : Int) > 2147483647
 ·rw [if_pos c2] at H
  have c2b0 : decide (2147483647 < (l0.length : Int)) = true := decide_eq_true c2
  have c2b1 : decide (2147483647 < l0.length) = true := decide_eq_true (by omega)
  clear c2
  obtain rfl := Option.some.inj H
  go_enter Tryz.func27, Tryz.ntmps27
  go_wp2
  go_ret
  exact ⟨by rfl, by repeat ((with_reducible exact HB.out))⟩
 ·rw [if_neg c2] at H
  have c2b0 : decide (2147483647 < (l0.length : Int)) = false := decide_eq_false c2
  have c2b1 : decide (2147483647 < l0.length) = false := decide_eq_false (by omega)
  clear c2
  have H' := Aside0.mk H
  clear H
  go_enter Tryz.func27, Tryz.ntmps27
  go_wp2
  go_loopg [10] k (fun kq v10 w' => ∃ (x10_1 : Int), v10 = .int .i64 x10_1 ∧ Aside0 (laws_zzFits5.l0 kq l0 (l0.length : Int) x10_1 = some r) ∧ Aside0 (kq ≤ k) ∧ Aside0 (Below w.heap.size w w'))
  case atStart => exact ⟨(0), (by first | rfl | (simp; done) | (simp [*]; done)), H', ⟨Nat.le_refl _⟩, ⟨by repeat ((with_reducible exact HB.out))⟩⟩
  case round =>
   clear H'
   try clear c2
   try clear c2b0
   try clear c2b1
   try clear p2
   obtain ⟨x10_1, rfl, HA, HK1, HB⟩ := hrel
   cases gk with
   | zero => exact absurd HA.out (by simp [laws_zzFits5.l0])
   | succ k1 =>
     have H := HA.out
     clear HA
     simp only [laws_zzFits5.l0] at H
     by_cases c3 : x10_1 < (l0.length : Int)
     ·rw [if_pos c3] at H
      have c3b0 : decide (x10_1 < (l0.length : Int)) = true := decide_eq_true c3
      clear c3
      by_cases c4 : 0 ≤ x10_1
      ·rw [if_pos c4] at H
       have c4b0 : decide (0 ≤ x10_1) = true := decide_eq_true c4
       clear c4
       by_cases c5 : x10_1 < (l0.length : Int)
       ·rw [if_pos c5] at H
        have c5b0 : decide (x10_1 < (l0.length : Int)) = true := decide_eq_true c5
        clear c5
        replace H := Option.bind_eq_some_iff.mp H
        obtain ⟨t295, A60, H⟩ := H
        replace H : (if t295 = true then (laws_zzFits5.l0 k1 l0 (l0.length : Int) (wrap64 (x10_1 + 1))) else (some false)) = some r := H
        have A6 := Aside0.mk A60
        clear A60
        by_cases c7 : t295 = true
        ·subst c7
         have H1 : (laws_zzFits5.l0 k1 l0 (l0.length : Int) (wrap64 (x10_1 + 1))) = some r := by rw [if_pos rfl] at H; exact H
         clear H
         have H := H1
         clear H1
         have H' := Aside0.mk H
         clear H
         have p293 : 0 ≤ (x10_1 : Int) := of_decide_eq_true (by first | (with_reducible assumption) | assumption)
         have q293 : x10_1 < (l0.length : Int) := of_decide_eq_true (by first | (with_reducible assumption) | assumption)
         obtain ⟨ad293, A293_1, c293_1, e293, hx293_0, hx293_1, hl293_1, hi293_1⟩ := at_T73 HR0.out x10_1 p293 q293
         cases e293
         replace hx293_0 := (HB.out.cell (World.block_lt_of_cell? w _ hx293_0)).trans hx293_0
         replace hx293_1 := (HB.out.cell (World.block_lt_of_cell? w _ hx293_1)).trans hx293_1
         have HR293_1 := Aside0.mk hi293_1
         have HC293_1 := Aside0.mk hl293_1
         clear hi293_1 hl293_1
         replace p293 := eq_true p293
         replace q293 := eq_true q293
         go_wp2_with (first | ((with_reducible refine gate_dst (N := 4) rfl ?_); refine box_event ?hg (N := 4) ?hd (cs := #[.string (⟨#[]⟩ : ByteArray), .slice none 0 0]) (t := 73) ?hr ?_; (case hd => rfl); (case hg => rfl); (case hr => first | (go_simp; done) | (go_simp; rfl)); intro gb294 hg w8 hbox hb; have n0_ := Aside0.mk (below_step (by repeat ((with_reducible exact HB.out))) hb); have n1_ := Aside0.mk (hbox); have n2_ := Aside0.mk ((by rw [hg]; exact (below_size (by repeat ((with_reducible exact HB.out)))) : w.heap.size ≤ gb294)); have n3_ := Aside0.mk ((by rw [hg]; exact (below_size (by repeat ((with_reducible exact HB.out)))) : w.heap.size ≤ gb294)); clear HB; have HB := n0_; have BK294 := n1_; have GW294 := n2_; have GE294 := n3_; clear n0_ n1_ n2_ n3_; clear hb hbox hg; have hcz9_0 : w8.cell? ⟨gb294, 0, none⟩ = some (.string (⟨#[]⟩ : ByteArray)) := (blk_cell BK294.out 0).trans rfl; have hcz9_1 : w8.cell? ⟨gb294, 1, none⟩ = some (.slice none 0 0) := (blk_cell BK294.out 1).trans rfl; have hfz9_0 := blk_frozen BK294.out 0; have hfz9_1 := blk_frozen BK294.out 1) | ((with_reducible refine gate_callee (f := 56) rfl ?_); refine goesL_ (some 15) rfl rfl Tryz.func56 (by kernel_rfl) rfl #[.agg #[.string ((rd_T73 l0 x10_1).f0), .slice A293_1 ((rd_T73 l0 x10_1).f1).length c293_1]] rfl (by (try simp only [List.map_toArray, List.map_cons, List.map_nil]); rfl) ?_; (with_reducible refine (laws_zzFits6.calls k1 ((rd_T73 l0 x10_1).f0) _ _ ((rd_T73 l0 x10_1).f1) true _ ?side1 ?side2 A6.out).mono ?_); (case side1 => exact Kd.C_below HR293_1.out (by repeat ((with_reducible first | exact HB.out | refine below_set ?_ GE294.out)))); (case side2 => exact HC293_1.out); rintro e w10 ⟨rfl, hb⟩; refine ⟨_, rfl, ?_⟩; have n0_ := Aside0.mk (blk_below (g := gb294) (o := .cells #[.string ((rd_T73 l0 x10_1).f0), .slice A293_1 ((rd_T73 l0 x10_1).f1).length c293_1] 73 (0, 0)) (by (with_reducible repeat (fail)); refine blk_put (cs := #[.string ((rd_T73 l0 x10_1).f0), .slice none 0 0]) ?_ 1 _ rfl; (with_reducible repeat (fail)); refine blk_put (cs := #[.string (⟨#[]⟩ : ByteArray), .slice none 0 0]) ?_ 0 _ rfl; (with_reducible repeat (fail)); exact BK294.out) hb); have n1_ := Aside0.mk (below_step (by repeat ((with_reducible first | exact HB.out | refine below_set ?_ GE294.out))) hb); clear BK294; clear HB; have BK294 := n0_; have HB := n1_; clear n0_ n1_; (try clear hb); (try clear hb2); (try clear hk); (try clear hi)))
         go_roundg k1
         case measure => have := HK1.out; omega
         case rel => exact ⟨(wrap64 (x10_1 + 1)), (by first | rfl | (simp; done) | (simp [*]; done)), H', ⟨by have := HK1.out; omega⟩, ⟨by repeat ((with_reducible exact HB.out))⟩⟩
        ·replace c7 := Bool.eq_false_iff.mpr c7
         subst c7
         have H1 : (some false) = some r := by rw [if_neg (show ¬ (false = true) by decide)] at H; exact H
         clear H
         have H := H1
         clear H1
         obtain rfl := Option.some.inj H
         have p293 : 0 ≤ (x10_1 : Int) := of_decide_eq_true (by first | (with_reducible assumption) | assumption)
         have q293 : x10_1 < (l0.length : Int) := of_decide_eq_true (by first | (with_reducible assumption) | assumption)
         obtain ⟨ad293, A293_1, c293_1, e293, hx293_0, hx293_1, hl293_1, hi293_1⟩ := at_T73 HR0.out x10_1 p293 q293
         cases e293
         replace hx293_0 := (HB.out.cell (World.block_lt_of_cell? w _ hx293_0)).trans hx293_0
         replace hx293_1 := (HB.out.cell (World.block_lt_of_cell? w _ hx293_1)).trans hx293_1
         have HR293_1 := Aside0.mk hi293_1
         have HC293_1 := Aside0.mk hl293_1
         clear hi293_1 hl293_1
         replace p293 := eq_true p293
         replace q293 := eq_true q293
         go_wp2_with (first | ((with_reducible refine gate_dst (N := 4) rfl ?_); refine box_event ?hg (N := 4) ?hd (cs := #[.string (⟨#[]⟩ : ByteArray), .slice none 0 0]) (t := 73) ?hr ?_; (case hd => rfl); (case hg => rfl); (case hr => first | (go_simp; done) | (go_simp; rfl)); intro gb294 hg w11 hbox hb; have n0_ := Aside0.mk (below_step (by repeat ((with_reducible exact HB.out))) hb); have n1_ := Aside0.mk (hbox); have n2_ := Aside0.mk ((by rw [hg]; exact (below_size (by repeat ((with_reducible exact HB.out)))) : w.heap.size ≤ gb294)); have n3_ := Aside0.mk ((by rw [hg]; exact (below_size (by repeat ((with_reducible exact HB.out)))) : w.heap.size ≤ gb294)); clear HB; have HB := n0_; have BK294 := n1_; have GW294 := n2_; have GE294 := n3_; clear n0_ n1_ n2_ n3_; clear hb hbox hg; have hcz12_0 : w11.cell? ⟨gb294, 0, none⟩ = some (.string (⟨#[]⟩ : ByteArray)) := (blk_cell BK294.out 0).trans rfl; have hcz12_1 : w11.cell? ⟨gb294, 1, none⟩ = some (.slice none 0 0) := (blk_cell BK294.out 1).trans rfl; have hfz12_0 := blk_frozen BK294.out 0; have hfz12_1 := blk_frozen BK294.out 1) | ((with_reducible refine gate_callee (f := 56) rfl ?_); refine goesL_ (some 15) rfl rfl Tryz.func56 (by kernel_rfl) rfl #[.agg #[.string ((rd_T73 l0 x10_1).f0), .slice A293_1 ((rd_T73 l0 x10_1).f1).length c293_1]] rfl (by (try simp only [List.map_toArray, List.map_cons, List.map_nil]); rfl) ?_; (with_reducible refine (laws_zzFits6.calls k1 ((rd_T73 l0 x10_1).f0) _ _ ((rd_T73 l0 x10_1).f1) false _ ?side1 ?side2 A6.out).mono ?_); (case side1 => exact Kd.C_below HR293_1.out (by repeat ((with_reducible first | exact HB.out | refine below_set ?_ GE294.out)))); (case side2 => exact HC293_1.out); rintro e w13 ⟨rfl, hb⟩; refine ⟨_, rfl, ?_⟩; have n0_ := Aside0.mk (blk_below (g := gb294) (o := .cells #[.string ((rd_T73 l0 x10_1).f0), .slice A293_1 ((rd_T73 l0 x10_1).f1).length c293_1] 73 (0, 0)) (by (with_reducible repeat (fail)); refine blk_put (cs := #[.string ((rd_T73 l0 x10_1).f0), .slice none 0 0]) ?_ 1 _ rfl; (with_reducible repeat (fail)); refine blk_put (cs := #[.string (⟨#[]⟩ : ByteArray), .slice none 0 0]) ?_ 0 _ rfl; (with_reducible repeat (fail)); exact BK294.out) hb); have n1_ := Aside0.mk (below_step (by repeat ((with_reducible first | exact HB.out | refine below_set ?_ GE294.out))) hb); clear BK294; clear HB; have BK294 := n0_; have HB := n1_; clear n0_ n1_; (try clear hb); (try clear hb2); (try clear hk); (try clear hi)))
         go_ret
         exact ⟨by rfl, by repeat ((with_reducible exact HB.out))⟩
       ·rw [if_neg c5] at H
        exact absurd H (by simp)
      ·rw [if_neg c4] at H
       exact absurd H (by simp)
     ·rw [if_neg c3] at H
      have c3b0 : decide (x10_1 < (l0.length : Int)) = false := decide_eq_false c3
      clear c3
      obtain rfl := Option.some.inj H
      go_wp2
      go_ret
      exact ⟨by rfl, by repeat ((with_reducible exact HB.out))⟩

end Go.Proofs.YtclmjmfcggkpaaaGreatDoor.PX
set_option linter.unusedVariables false
set_option linter.unusedSimpArgs false
namespace Go.Proofs.YtclmjmfcggkpaaaGreatDoor
open Go.RowKit Go.Proofs.YtclmjmfcggkpaaaGreatDoorW.PrintWords Go.Proofs.YtclmjmfcggkpaaaGreatDoorW.PrintLast Go.Proofs.YtclmjmfcggkpaaaGreatDoorW.PrintMore
open PX
namespace HH
open H
/-! ### The laws' sizes -/
theorem f7_l0 (vs : List ByteArray) (hl : vs.length ≤ 2147483647) : ∀ (n i : Nat), n = vs.length - i → i ≤ vs.length → ∃ F b, laws_zzFits7.l0 F vs (vs.length : Int) (i : Int) = some b := by
 intro n
 induction n with
 | zero =>
   intro i hn hi
   exact ⟨1, true, by rw [laws_zzFits7.l0, if_neg (by omega)]⟩
 | succ n ih =>
   intro i hn hi
   obtain ⟨F, b, h⟩ := ih (i + 1) (by omega) (by omega)
   by_cases hs : ((rdOf ByteArray.empty vs (i : Int)).size : Int) > 2147483647
   ·exact ⟨1, false, by rw [laws_zzFits7.l0, if_pos (by omega), if_pos (by omega), if_pos (by omega), if_pos hs]⟩
   ·exact ⟨F + 1, b, by rw [laws_zzFits7.l0, if_pos (by omega), if_pos (by omega), if_pos (by omega), if_neg hs, wr1' i vs.length (by omega) (by omega)]; exact h⟩
theorem f7_eq (vs : List ByteArray) : ∃ F b, laws_zzFits7.f F vs = some b ∧ (b = true → vs.length ≤ 2147483647) := by
 by_cases hl : vs.length ≤ 2147483647
 ·obtain ⟨F, b, h⟩ := f7_l0 vs hl vs.length 0 (by omega) (by omega)
  exact ⟨F, b, by unfold laws_zzFits7.f; rw [if_neg (by omega)]; exact h, fun _ => hl⟩
 ·exact ⟨0, false, by unfold laws_zzFits7.f; rw [if_pos (by omega)], fun h => by cases h⟩
theorem f6_eq (k : ByteArray) (vs : List ByteArray) : ∃ F b, laws_zzFits6.f F k vs = some b ∧ (b = true → k.size ≤ 2147483647 ∧ vs.length ≤ 2147483647) := by
 by_cases hl : (k.size : Int) > 2147483647
 ·exact ⟨0, false, by unfold laws_zzFits6.f; rw [if_pos hl], fun h => by cases h⟩
 ·obtain ⟨F, b, h, hb⟩ := f7_eq vs
  refine ⟨F, b, ?_, fun e => ⟨by omega, hb e⟩⟩
  unfold laws_zzFits6.f
  rw [if_neg hl, h]
  cases b <;> rfl
def fitH (h : S73) : Prop := h.f0.size ≤ 2147483647 ∧ h.f1.length ≤ 2147483647
theorem f5_l0 (L : List S73) (hl : L.length ≤ 2147483647) : ∀ (n i : Nat), n = L.length - i → i ≤ L.length → ∃ F b, laws_zzFits5.l0 F L (L.length : Int) (i : Int) = some b ∧ (b = true → ∀ (j : Nat) h, i ≤ j → L[j]? = some h → fitH h) := by
 intro n
 induction n with
 | zero =>
   intro i hn hi
   exact ⟨1, true, by rw [laws_zzFits5.l0, if_neg (by omega)], fun _ j h hj hh => by have := (List.getElem?_eq_some_iff.1 hh).1; omega⟩
 | succ n ih =>
   intro i hn hi
   obtain ⟨F, b, h, hb⟩ := ih (i + 1) (by omega) (by omega)
   obtain ⟨G, c, g, hc⟩ := f6_eq (rd_T73 L (i : Int)).f0 (rd_T73 L (i : Int)).f1
   have hat := rd73_at L i (by omega)
   have h1 := raise (f := fun F => laws_zzFits5.l0 F L (L.length : Int) ((i + 1 : Nat) : Int)) (fun F => (laws_zzFits5.mono_l F) _ _ _) (Nat.le_max_left F G) h
   have g1 := raise (f := fun F => laws_zzFits6.f F (rd_T73 L (i : Int)).f0 (rd_T73 L (i : Int)).f1) (fun F => laws_zzFits6.mono _ _ F) (Nat.le_max_right F G) g
   try simp only at h1 g1
   cases c with
   | false =>
     refine ⟨max F G + 1, false, ?_, fun h => by cases h⟩
     rw [laws_zzFits5.l0, if_pos (by omega), if_pos (by omega), if_pos (by omega), g1]
     rfl
   | true =>
     refine ⟨max F G + 1, b, ?_, fun e j x hj hx => ?_⟩
     ·rw [laws_zzFits5.l0, if_pos (by omega), if_pos (by omega), if_pos (by omega), g1, wr1' i L.length (by omega) (by omega)]
      exact h1
     ·rcases Nat.eq_or_lt_of_le hj with rfl | hj
      ·rw [hat] at hx
       obtain rfl := Option.some.inj hx
       exact hc rfl
      ·exact hb e j x hj hx
theorem fits5_call (L : List S73) (A0 : Option Addr) (c0 : Nat) (w : World) (hr : Kd.C k73 w A0 L.length L) (hc : L.length ≤ c0) :
 ∃ b, Calls Tryz.prog 27 #[.slice A0 L.length c0] w (fun e w' => e = .returned (.bool b) ∧ Below w.heap.size w w') ∧ (b = true → L.length ≤ 2147483647 ∧ ∀ h ∈ L, fitH h) := by
 by_cases hl : L.length ≤ 2147483647
 ·obtain ⟨F, b, h1, h2⟩ := f5_l0 L hl L.length 0 (by omega) (by omega)
  refine ⟨b, laws_zzFits5.calls F A0 c0 L b w hr hc ?_, fun hb => ⟨hl, fun h hh => ?_⟩⟩
  ·unfold laws_zzFits5.f
   rw [if_neg (by omega)]
   exact h1
  ·obtain ⟨j, hj⟩ := List.mem_iff_getElem?.1 hh
   exact h2 hb j h (Nat.zero_le _) hj
 ·exact ⟨false, laws_zzFits5.calls 0 A0 c0 L false w hr hc (by unfold laws_zzFits5.f; rw [if_pos (by omega)]), fun hb => by cases hb⟩
theorem putB_lk {L : List S73} (h : srt L) (x : S73) (q : ByteArray) : lk (putB L x) q = if x.f0 = q then some x.f1 else lk L q := by
 unfold putB
 rw [putH_lk h]
 rfl
theorem lk_bef {bef : List S73} (hnd : (bef.map (·.f0)).Nodup) (hbl : ∀ h ∈ bef, h.f1.length ≤ 100) : ∀ k, k ≤ bef.length → ∀ q, lk ((bef.take k).foldl putB []) q = lk (bef.take k) q := by
 intro k
 induction k with
 | zero => intro _ q; rfl
 | succ k ih =>
   intro hk q
   rw [fold_take putB [] (rd73_at bef k (by omega)), lk_take k (by omega) q hnd]
   rw [putB_lk (ok3_bef bef hbl k (by omega)).s, ih (by omega)]
end HH
end Go.Proofs.YtclmjmfcggkpaaaGreatDoor
