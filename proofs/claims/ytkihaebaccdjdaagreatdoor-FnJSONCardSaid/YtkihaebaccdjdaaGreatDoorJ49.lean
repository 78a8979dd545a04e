import Derived.Test.YtkihaebaccdjdaaGreatDoorJ4
import Derived.Test.YtkihaebaccdjdaaGreatDoorJ48
import Derived.Test.YtkihaebaccdjdaaGreatDoorJ45
import Derived.Test.YtkihaebaccdjdaaGreatDoorJ47
namespace Go.Proofs.YtkihaebaccdjdaaGreatDoor.PX
open Go.RowKit Go.Proofs.YtkihaebaccdjdaaGreatDoorW.PrintWords Go.Proofs.YtkihaebaccdjdaaGreatDoorW.PrintLast Go.Proofs.YtkihaebaccdjdaaGreatDoorW.PrintMore
attribute [local go_sem] max2_int min2_int max_two min_two max_three min_three max_four min_four   -- for this text's walks alone
set_option linter.unusedVariables false
set_option linter.unusedSimpArgs false

/-! ### spec_inJSONs: function 51 -/
def spec_inJSONs.f (k : Nat) (a0_0 : Int) (a0_1 : ByteArray) (a0_2 : Int) (l0_3 : List ByteArray) (l0_4 : List (S28)) (l0_5 : List Bool) (a0_6 : ByteArray) (a0_7 : ByteArray) (a0_8 : ByteArray) (l0_9 : List (S45)) (a1 : Bool) : Option (Bool) := (spec_isPlain.f k a0_0 a0_1 a0_2 l0_3 l0_4 l0_5 a0_6 a0_7 a0_8 l0_9).bind fun t713 => (if t713 = true then (some (!a1)) else (some false))
set_option maxHeartbeats 8000000 in
set_option maxRecDepth 100000 in
theorem spec_inJSONs.calls (k : Nat) (a0_0 : Int) (a0_1 : ByteArray) (a0_2 : Int) (A0_3 : Option Addr) (c0_3 : Nat) (l0_3 : List ByteArray) (A0_4 : Option Addr) (c0_4 : Nat) (l0_4 : List (S28)) (A0_5 : Option Addr) (c0_5 : Nat) (l0_5 : List Bool) (a0_6 : ByteArray) (a0_7 : ByteArray) (a0_8 : ByteArray) (A0_9 : Option Addr) (c0_9 : Nat) (l0_9 : List (S45)) (a1 : Bool) (r : Bool) (w : World) (hr0_3 : Kd.C Kd.string w A0_3 l0_3.length l0_3) (hc0_3 : l0_3.length ≤ c0_3) (hr0_4 : Kd.C k28 w A0_4 l0_4.length l0_4) (hc0_4 : l0_4.length ≤ c0_4) (hr0_5 : Kd.C Kd.bool w A0_5 l0_5.length l0_5) (hc0_5 : l0_5.length ≤ c0_5) (hr0_9 : Kd.C k45 w A0_9 l0_9.length l0_9) (hc0_9 : l0_9.length ≤ c0_9) (h : spec_inJSONs.f k a0_0 a0_1 a0_2 l0_3 l0_4 l0_5 a0_6 a0_7 a0_8 l0_9 a1 = some r) :
    Calls Tryz.prog 51 #[.agg #[.int .i64 a0_0, .string a0_1, .int .i64 a0_2, .slice A0_3 l0_3.length c0_3, .slice A0_4 l0_4.length c0_4, .slice A0_5 l0_5.length c0_5, .string a0_6, .string a0_7, .string a0_8, .slice A0_9 l0_9.length c0_9], .bool a1] w fun e w' => e = .returned (.bool r) ∧ Below w.heap.size w w' := by
  have hu28 := Tryz.underlying28
  have HR0_3 := Aside0.mk hr0_3
  have HC0_3 := Aside0.mk hc0_3
  clear hr0_3 hc0_3
  have HR0_4 := Aside0.mk hr0_4
  have HC0_4 := Aside0.mk hc0_4
  clear hr0_4 hc0_4
  have HR0_5 := Aside0.mk hr0_5
  have HC0_5 := Aside0.mk hc0_5
  clear hr0_5 hc0_5
  have HR0_9 := Aside0.mk hr0_9
  have HC0_9 := Aside0.mk hc0_9
  clear hr0_9 hc0_9
  have HB := Aside0.mk (Below.refl w.heap.size w)
  have H : ((spec_isPlain.f k a0_0 a0_1 a0_2 l0_3 l0_4 l0_5 a0_6 a0_7 a0_8 l0_9).bind fun t713 => (if t713 = true then (some (!a1)) else (some false))) = some r := h
  clear h
  replace H := Option.bind_eq_some_iff.mp H
  obtain ⟨t713, A30, H⟩ := H
  replace H : (if t713 = true then (some (!a1)) else (some false)) = some r := H
  have A3 := Aside0.mk A30
  clear A30
  by_cases c4 : t713 = true
  · subst c4
    have H1 : (some (!a1)) = some r := by rw [if_pos rfl] at H; exact H
    clear H
    have H := H1
    clear H1
    obtain rfl := Option.some.inj H
    go_enter Tryz.func51, Tryz.ntmps51
    go_wp2_with (first | ((with_reducible refine gate_dst (N := 2) rfl ?_); refine box_event ?hg (N := 2) ?hd (cs := #[.int .i64 a0_0, .string a0_1, .int .i64 a0_2, .slice A0_3 l0_3.length c0_3, .slice A0_4 l0_4.length c0_4, .slice A0_5 l0_5.length c0_5, .string a0_6, .string a0_7, .string a0_8, .slice A0_9 l0_9.length c0_9]) (t := 28) ?hr ?_; (case hd => rfl); (case hg => rfl); (case hr => first | (go_simp; done) | (go_simp; rfl)); intro gb712 hg w5 hbox hb; have n0_ := Aside0.mk (below_step (by repeat (first | (with_reducible first | exact HB.out | apply below_alloc | apply pw_below_drewN | apply below_drew1) | exact HB.out)) hb); have n1_ := Aside0.mk (hbox); have n2_ := Aside0.mk ((by rw [hg]; exact (below_size (by repeat (first | (with_reducible first | exact HB.out | apply below_alloc | apply pw_below_drewN | apply below_drew1) | exact HB.out))) : w.heap.size ≤ gb712)); have n3_ := Aside0.mk ((by rw [hg]; exact (below_size (by repeat (first | (with_reducible first | exact HB.out | apply below_alloc | apply pw_below_drewN | apply below_drew1) | exact HB.out))) : w.heap.size ≤ gb712)); clear HB; have HB := n0_; have BK712 := n1_; have GW712 := n2_; have GE712 := n3_; clear n0_ n1_ n2_ n3_; clear hb hbox hg; have hcz6_0 : w5.cell? ⟨gb712, 0, none⟩ = some (.int .i64 a0_0) := (blk_cell BK712.out 0).trans rfl; have hcz6_1 : w5.cell? ⟨gb712, 1, none⟩ = some (.string a0_1) := (blk_cell BK712.out 1).trans rfl; have hcz6_2 : w5.cell? ⟨gb712, 2, none⟩ = some (.int .i64 a0_2) := (blk_cell BK712.out 2).trans rfl; have hcz6_3 : w5.cell? ⟨gb712, 3, none⟩ = some (.slice A0_3 l0_3.length c0_3) := (blk_cell BK712.out 3).trans rfl; have hcz6_4 : w5.cell? ⟨gb712, 4, none⟩ = some (.slice A0_4 l0_4.length c0_4) := (blk_cell BK712.out 4).trans rfl; have hcz6_5 : w5.cell? ⟨gb712, 5, none⟩ = some (.slice A0_5 l0_5.length c0_5) := (blk_cell BK712.out 5).trans rfl; have hcz6_6 : w5.cell? ⟨gb712, 6, none⟩ = some (.string a0_6) := (blk_cell BK712.out 6).trans rfl; have hcz6_7 : w5.cell? ⟨gb712, 7, none⟩ = some (.string a0_7) := (blk_cell BK712.out 7).trans rfl; have hcz6_8 : w5.cell? ⟨gb712, 8, none⟩ = some (.string a0_8) := (blk_cell BK712.out 8).trans rfl; have hcz6_9 : w5.cell? ⟨gb712, 9, none⟩ = some (.slice A0_9 l0_9.length c0_9) := (blk_cell BK712.out 9).trans rfl; have hfz6_0 := blk_frozen BK712.out 0; have hfz6_1 := blk_frozen BK712.out 1; have hfz6_2 := blk_frozen BK712.out 2; have hfz6_3 := blk_frozen BK712.out 3; have hfz6_4 := blk_frozen BK712.out 4; have hfz6_5 := blk_frozen BK712.out 5; have hfz6_6 := blk_frozen BK712.out 6; have hfz6_7 := blk_frozen BK712.out 7; have hfz6_8 := blk_frozen BK712.out 8; have hfz6_9 := blk_frozen BK712.out 9) | ((with_reducible refine gate_callee (f := 128) rfl ?_); refine goesL_ (some 6) rfl rfl Tryz.func128 (by kernel_rfl) rfl #[.agg #[.int .i64 a0_0, .string a0_1, .int .i64 a0_2, .slice A0_3 l0_3.length c0_3, .slice A0_4 l0_4.length c0_4, .slice A0_5 l0_5.length c0_5, .string a0_6, .string a0_7, .string a0_8, .slice A0_9 l0_9.length c0_9]] rfl (by (try simp only [List.map_toArray, List.map_cons, List.map_nil]); first | done | rfl | (simp only [List.length_drop, List.length_take]; rfl)) ?_; (with_reducible refine (spec_isPlain.calls k a0_0 a0_1 a0_2 _ _ l0_3 _ _ l0_4 _ _ l0_5 a0_6 a0_7 a0_8 _ _ l0_9 true _ ?side1 ?side2 ?side3 ?side4 ?side5 ?side6 ?side7 ?side8 A3.out).mono ?_); (case side1 => repeat (first | exact (Kd.C_below HR0_3.out HB.out) | (with_reducible refine Kd.C_alloc ?_ _) | (with_reducible refine Kd.C_drewN ?_ _) | (with_reducible refine Kd.C_drew ?_))); (case side2 => exact HC0_3.out); (case side3 => repeat (first | exact (Kd.C_below HR0_4.out HB.out) | (with_reducible refine Kd.C_alloc ?_ _) | (with_reducible refine Kd.C_drewN ?_ _) | (with_reducible refine Kd.C_drew ?_))); (case side4 => exact HC0_4.out); (case side5 => repeat (first | exact (Kd.C_below HR0_5.out HB.out) | (with_reducible refine Kd.C_alloc ?_ _) | (with_reducible refine Kd.C_drewN ?_ _) | (with_reducible refine Kd.C_drew ?_))); (case side6 => exact HC0_5.out); (case side7 => repeat (first | exact (Kd.C_below HR0_9.out HB.out) | (with_reducible refine Kd.C_alloc ?_ _) | (with_reducible refine Kd.C_drewN ?_ _) | (with_reducible refine Kd.C_drew ?_))); (case side8 => exact HC0_9.out); rintro e w7 ⟨rfl, hb⟩; refine ⟨_, rfl, ?_⟩; have n0_ := Aside0.mk (blk_below (g := gb712) (o := .cells #[.int .i64 a0_0, .string a0_1, .int .i64 a0_2, .slice A0_3 l0_3.length c0_3, .slice A0_4 l0_4.length c0_4, .slice A0_5 l0_5.length c0_5, .string a0_6, .string a0_7, .string a0_8, .slice A0_9 l0_9.length c0_9] 28 (0, 0)) (by (with_reducible repeat (first | refine blk_drewN ?_ _ | refine blk_drew ?_ | refine blk_alloc ?_ _)); exact BK712.out) hb); have n1_ := Aside0.mk (below_step (by repeat (first | (with_reducible first | exact HB.out | apply below_alloc | apply pw_below_drewN | apply below_drew1 | refine below_set ?_ GE712.out) | exact HB.out)) hb); clear BK712; clear HB; have BK712 := n0_; have HB := n1_; clear n0_ n1_; (try clear hb); (try clear hb2); (try clear hk); (try clear hi)))
    go_ret
    exact ⟨by first | rfl | (simp [errW_none, errW_some] <;> rfl) | (simp [*, errW_none, errW_some] <;> rfl), by repeat (first | (with_reducible first | exact HB.out | apply below_alloc | apply pw_below_drewN | apply below_drew1 | refine below_set ?_ GE712.out) | exact HB.out)⟩
  · replace c4 := Bool.eq_false_iff.mpr c4
    subst c4
    have H1 : (some false) = some r := by rw [if_neg (show ¬ (false = true) by decide)] at H; exact H
    clear H
    have H := H1
    clear H1
    obtain rfl := Option.some.inj H
    go_enter Tryz.func51, Tryz.ntmps51
    go_wp2_with (first | ((with_reducible refine gate_dst (N := 2) rfl ?_); refine box_event ?hg (N := 2) ?hd (cs := #[.int .i64 a0_0, .string a0_1, .int .i64 a0_2, .slice A0_3 l0_3.length c0_3, .slice A0_4 l0_4.length c0_4, .slice A0_5 l0_5.length c0_5, .string a0_6, .string a0_7, .string a0_8, .slice A0_9 l0_9.length c0_9]) (t := 28) ?hr ?_; (case hd => rfl); (case hg => rfl); (case hr => first | (go_simp; done) | (go_simp; rfl)); intro gb712 hg w8 hbox hb; have n0_ := Aside0.mk (below_step (by repeat (first | (with_reducible first | exact HB.out | apply below_alloc | apply pw_below_drewN | apply below_drew1) | exact HB.out)) hb); have n1_ := Aside0.mk (hbox); have n2_ := Aside0.mk ((by rw [hg]; exact (below_size (by repeat (first | (with_reducible first | exact HB.out | apply below_alloc | apply pw_below_drewN | apply below_drew1) | exact HB.out))) : w.heap.size ≤ gb712)); have n3_ := Aside0.mk ((by rw [hg]; exact (below_size (by repeat (first | (with_reducible first | exact HB.out | apply below_alloc | apply pw_below_drewN | apply below_drew1) | exact HB.out))) : w.heap.size ≤ gb712)); clear HB; have HB := n0_; have BK712 := n1_; have GW712 := n2_; have GE712 := n3_; clear n0_ n1_ n2_ n3_; clear hb hbox hg; have hcz9_0 : w8.cell? ⟨gb712, 0, none⟩ = some (.int .i64 a0_0) := (blk_cell BK712.out 0).trans rfl; have hcz9_1 : w8.cell? ⟨gb712, 1, none⟩ = some (.string a0_1) := (blk_cell BK712.out 1).trans rfl; have hcz9_2 : w8.cell? ⟨gb712, 2, none⟩ = some (.int .i64 a0_2) := (blk_cell BK712.out 2).trans rfl; have hcz9_3 : w8.cell? ⟨gb712, 3, none⟩ = some (.slice A0_3 l0_3.length c0_3) := (blk_cell BK712.out 3).trans rfl; have hcz9_4 : w8.cell? ⟨gb712, 4, none⟩ = some (.slice A0_4 l0_4.length c0_4) := (blk_cell BK712.out 4).trans rfl; have hcz9_5 : w8.cell? ⟨gb712, 5, none⟩ = some (.slice A0_5 l0_5.length c0_5) := (blk_cell BK712.out 5).trans rfl; have hcz9_6 : w8.cell? ⟨gb712, 6, none⟩ = some (.string a0_6) := (blk_cell BK712.out 6).trans rfl; have hcz9_7 : w8.cell? ⟨gb712, 7, none⟩ = some (.string a0_7) := (blk_cell BK712.out 7).trans rfl; have hcz9_8 : w8.cell? ⟨gb712, 8, none⟩ = some (.string a0_8) := (blk_cell BK712.out 8).trans rfl; have hcz9_9 : w8.cell? ⟨gb712, 9, none⟩ = some (.slice A0_9 l0_9.length c0_9) := (blk_cell BK712.out 9).trans rfl; have hfz9_0 := blk_frozen BK712.out 0; have hfz9_1 := blk_frozen BK712.out 1; have hfz9_2 := blk_frozen BK712.out 2; have hfz9_3 := blk_frozen BK712.out 3; have hfz9_4 := blk_frozen BK712.out 4; have hfz9_5 := blk_frozen BK712.out 5; have hfz9_6 := blk_frozen BK712.out 6; have hfz9_7 := blk_frozen BK712.out 7; have hfz9_8 := blk_frozen BK712.out 8; have hfz9_9 := blk_frozen BK712.out 9) | ((with_reducible refine gate_callee (f := 128) rfl ?_); refine goesL_ (some 6) rfl rfl Tryz.func128 (by kernel_rfl) rfl #[.agg #[.int .i64 a0_0, .string a0_1, .int .i64 a0_2, .slice A0_3 l0_3.length c0_3, .slice A0_4 l0_4.length c0_4, .slice A0_5 l0_5.length c0_5, .string a0_6, .string a0_7, .string a0_8, .slice A0_9 l0_9.length c0_9]] rfl (by (try simp only [List.map_toArray, List.map_cons, List.map_nil]); first | done | rfl | (simp only [List.length_drop, List.length_take]; rfl)) ?_; (with_reducible refine (spec_isPlain.calls k a0_0 a0_1 a0_2 _ _ l0_3 _ _ l0_4 _ _ l0_5 a0_6 a0_7 a0_8 _ _ l0_9 false _ ?side1 ?side2 ?side3 ?side4 ?side5 ?side6 ?side7 ?side8 A3.out).mono ?_); (case side1 => repeat (first | exact (Kd.C_below HR0_3.out HB.out) | (with_reducible refine Kd.C_alloc ?_ _) | (with_reducible refine Kd.C_drewN ?_ _) | (with_reducible refine Kd.C_drew ?_))); (case side2 => exact HC0_3.out); (case side3 => repeat (first | exact (Kd.C_below HR0_4.out HB.out) | (with_reducible refine Kd.C_alloc ?_ _) | (with_reducible refine Kd.C_drewN ?_ _) | (with_reducible refine Kd.C_drew ?_))); (case side4 => exact HC0_4.out); (case side5 => repeat (first | exact (Kd.C_below HR0_5.out HB.out) | (with_reducible refine Kd.C_alloc ?_ _) | (with_reducible refine Kd.C_drewN ?_ _) | (with_reducible refine Kd.C_drew ?_))); (case side6 => exact HC0_5.out); (case side7 => repeat (first | exact (Kd.C_below HR0_9.out HB.out) | (with_reducible refine Kd.C_alloc ?_ _) | (with_reducible refine Kd.C_drewN ?_ _) | (with_reducible refine Kd.C_drew ?_))); (case side8 => exact HC0_9.out); rintro e w10 ⟨rfl, hb⟩; refine ⟨_, rfl, ?_⟩; have n0_ := Aside0.mk (blk_below (g := gb712) (o := .cells #[.int .i64 a0_0, .string a0_1, .int .i64 a0_2, .slice A0_3 l0_3.length c0_3, .slice A0_4 l0_4.length c0_4, .slice A0_5 l0_5.length c0_5, .string a0_6, .string a0_7, .string a0_8, .slice A0_9 l0_9.length c0_9] 28 (0, 0)) (by (with_reducible repeat (first | refine blk_drewN ?_ _ | refine blk_drew ?_ | refine blk_alloc ?_ _)); exact BK712.out) hb); have n1_ := Aside0.mk (below_step (by repeat (first | (with_reducible first | exact HB.out | apply below_alloc | apply pw_below_drewN | apply below_drew1 | refine below_set ?_ GE712.out) | exact HB.out)) hb); clear BK712; clear HB; have BK712 := n0_; have HB := n1_; clear n0_ n1_; (try clear hb); (try clear hb2); (try clear hk); (try clear hi)))
    go_ret
    exact ⟨by first | rfl | (simp [errW_none, errW_some] <;> rfl) | (simp [*, errW_none, errW_some] <;> rfl), by repeat (first | (with_reducible first | exact HB.out | apply below_alloc | apply pw_below_drewN | apply below_drew1 | refine below_set ?_ GE712.out) | exact HB.out)⟩

end Go.Proofs.YtkihaebaccdjdaaGreatDoor.PX
set_option linter.unusedVariables false
set_option linter.unusedSimpArgs false
namespace Go.Proofs.YtkihaebaccdjdaaGreatDoor
open Go.RowKit Go.Proofs.YtkihaebaccdjdaaGreatDoorW.PrintWords Go.Proofs.YtkihaebaccdjdaaGreatDoorW.PrintLast Go.Proofs.YtkihaebaccdjdaaGreatDoorW.PrintMore
open PX
namespace H
/-! ### IsJSON -/
theorem plain_l0 (names : List ByteArray) (k num : Int) (t : ByteArray) (kids : List S28) (fl : List Bool) (it kn vn : ByteArray) (at' : List S45) (hn : ∀ s ∈ names, s.size ≤ 20000) (ht : t.size ≤ 20000) (hl : names.length ≤ 200) :
    ∀ (d i : Nat), d = names.length - i → i ≤ names.length → ∀ F, d + 1 ≤ F → ∃ b, spec_isPlain.l0 F names (names.length : Int) (i : Int) k t num names kids fl it kn vn at' = some b ∧
      (b = true → (∀ j, i ≤ j → j < names.length → runes (fun _ => true) ((names.getD j ByteArray.empty).size + 1) (bytesOf (names.getD j ByteArray.empty)) = true) ∧ (k = 0 → runes (fun _ => true) (t.size + 1) (bytesOf t) = true)) := by
  intro d
  induction d with
  | zero =>
    intro i hd hi F hF
    obtain ⟨F, rfl⟩ : ∃ F', F = F' + 1 := ⟨F - 1, by omega⟩
    rw [spec_isPlain.l0, if_neg (by omega)]
    by_cases hk : k = 0
    · rw [if_pos hk]
      unfold spec_IsUTF8.f
      rw [if_pos (by omega)]
      exact ⟨_, rfl, fun h => ⟨fun j h1 h2 => by omega, fun _ => h⟩⟩
    · rw [if_neg hk]
      exact ⟨_, rfl, fun h => ⟨fun j h1 h2 => by omega, fun h => absurd h hk⟩⟩
  | succ d ih =>
    intro i hd hi F hF
    obtain ⟨F, rfl⟩ : ∃ F', F = F' + 1 := ⟨F - 1, by omega⟩
    rw [spec_isPlain.l0, if_pos (by omega), if_pos (by omega), if_pos (by omega)]
    have hrd : rdOf ByteArray.empty names (i : Int) = names.getD i ByteArray.empty := by simp [rdOf]
    have hns := hn _ (getD_mem ByteArray.empty (show i < names.length by omega))
    unfold spec_IsUTF8.f
    rw [hrd, if_pos (by omega)]
    simp only [Option.bind_some]
    have hw : wrap64 ((i : Int) + 1) = ((i + 1 : Nat) : Int) := by unfold wrap64; omega
    rw [hw]
    split
    · rename_i hr
      obtain ⟨b, e, hb⟩ := ih (i + 1) (by omega) (by omega) F (by omega)
      refine ⟨b, e, fun h => ⟨fun j h1 h2 => ?_, (hb h).2⟩⟩
      by_cases hj : j = i
      · rw [hj]; exact hr
      · exact (hb h).1 j (by omega) h2
    · exact ⟨_, rfl, fun h => by cases h⟩
theorem inJSONs_f (x : S28) (flat : Bool) (hbyt : bytN x ≤ 20000) (hl : x.f3.length ≤ 200) (hs : Sz 1 x) : ∃ b, spec_inJSONs.f 202 x.f0 x.f1 x.f2 x.f3 x.f4 x.f5 x.f6 x.f7 x.f8 x.f9 flat = some b ∧ (b = true → isJ x flat) := by
  have hn : ∀ s ∈ x.f3, s.size ≤ 20000 := fun s hs => by have := mem_sum ByteArray.size hs; unfold bytN at hbyt; omega
  obtain ⟨b, e, hb⟩ := plain_l0 x.f3 x.f0 x.f2 x.f1 x.f4 x.f5 x.f6 x.f7 x.f8 x.f9 hn (by unfold bytN at hbyt; omega) hl x.f3.length 0 (by omega) (by omega) 202 (by omega)
  unfold spec_inJSONs.f spec_isPlain.f
  rw [show (0 : Int) = ((0 : Nat) : Int) from rfl, e]
  simp only [Option.bind_some]
  split
  · rename_i hbt
    refine ⟨_, rfl, fun h => ⟨by simpa using h, fun s hs => ?_, (hb hbt).2, hbyt, hs⟩⟩
    obtain ⟨i, hi, rfl⟩ := mem_getD ByteArray.empty hs
    exact (hb hbt).1 i (Nat.zero_le _) hi
  · exact ⟨_, rfl, fun h => by cases h⟩
set_option maxHeartbeats 4000000 in
set_option maxRecDepth 100000 in
theorem isJSON22 (x : S28) (p : NA) (w : World) (hN : NH w x p) (hs : Sz 7 x) :
    Calls Tryz.prog 22 #[NV x p] w fun e w' => ∃ b : Bool, e = .returned (.bool b) ∧ Below w.heap.size w w' ∧ (b = true → Tree isJ 7 x false ∧ cntL 7 x ≤ 2000 ∧ bytL 7 x ≤ 20000) := by
  suffices h : ∀ Q : Ending → World → Prop, (∀ (b : Bool) (w' : World), Below w.heap.size w w' → (b = true → Tree isJ 7 x false ∧ cntL 7 x ≤ 2000 ∧ bytL 7 x ≤ 20000) → Q (.returned (.bool b)) w') → Calls Tryz.prog 22 #[NV x p] w Q from
    h _ (fun b w' h1 h2 => ⟨b, rfl, h1, h2⟩)
  intro Q hQ
  have htree := fun (g : Nat) (w1 : World) h1 h2 h3 => tree51 (is := isJ) (g := g) (fun x flat p w hN hs1 hbyt _ hl3 _ _ _ => by
      obtain ⟨b, hf, hb⟩ := inJSONs_f x flat hbyt hl3 hs1
      exact (spec_inJSONs.calls 202 x.f0 x.f1 x.f2 p.a3 p.c3 x.f3 p.a4 p.c4 x.f4 p.a5 p.c5 x.f5 x.f6 x.f7 x.f8 p.a9 p.c9 x.f9 flat b w hN.h3 hN.l3 hN.h4 hN.l4 hN.h5 hN.l5 hN.h9 hN.l9 hf).mono (fun e w' h => ⟨b, h.1, h.2, hb⟩))
    7 x false p w w1 0 0 (Nat.le_refl _) hN h1 h2 h3 ⟨by omega, by omega⟩ ⟨by omega, by omega⟩ hs
  replace hQ := Aside0.mk hQ
  clear hN hs
  obtain ⟨A3, c3, A4, c4, A5, c5, A9, c9⟩ := p
  have hb := below_alloc (below_alloc (Below.refl w.heap.size w) (.cells #[.int .i64 x.f0, .string x.f1, .int .i64 x.f2, .slice A3 x.f3.length c3, .slice A4 x.f4.length c4, .slice A5 x.f5.length c5, .string x.f6, .string x.f7, .string x.f8, .slice A9 x.f9.length c9] 28)) (.cells #[.int .i64 0, .int .i64 0] 50)
  have kn := heap_old (heap_new w (.cells #[.int .i64 x.f0, .string x.f1, .int .i64 x.f2, .slice A3 x.f3.length c3, .slice A4 x.f4.length c4, .slice A5 x.f5.length c5, .string x.f6, .string x.f7, .string x.f8, .slice A9 x.f9.length c9] 28)) (.cells #[.int .i64 0, .int .i64 0] 50)
  have kg := heap_new (w.alloc (.cells #[.int .i64 x.f0, .string x.f1, .int .i64 x.f2, .slice A3 x.f3.length c3, .slice A4 x.f4.length c4, .slice A5 x.f5.length c5, .string x.f6, .string x.f7, .string x.f8, .slice A9 x.f9.length c9] 28)) (.cells #[.int .i64 0, .int .i64 0] 50)
  have hsz : (w.alloc (.cells #[.int .i64 x.f0, .string x.f1, .int .i64 x.f2, .slice A3 x.f3.length c3, .slice A4 x.f4.length c4, .slice A5 x.f5.length c5, .string x.f6, .string x.f7, .string x.f8, .slice A9 x.f9.length c9] 28)).heap.size = w.heap.size + 1 := by simp
  rw [hsz] at kg
  have ht := htree (w.heap.size + 1) ((w.alloc (.cells #[.int .i64 x.f0, .string x.f1, .int .i64 x.f2, .slice A3 x.f3.length c3, .slice A4 x.f4.length c4, .slice A5 x.f5.length c5, .string x.f6, .string x.f7, .string x.f8, .slice A9 x.f9.length c9] 28)).alloc (.cells #[.int .i64 0, .int .i64 0] 50)) hb (by omega) kg
  unfold NV at ht ⊢
  dsimp only at ht ⊢
  replace ht := Aside0.mk ht; replace hb := Aside0.mk hb; replace kn := Aside0.mk kn; replace kg := Aside0.mk kg
  clear htree hsz
  go_enter Tryz.func22, Tryz.ntmps22
  go_wp2_with fail
  refine ht.out.mono ?_
  rintro e w2 ⟨b, a, c, rfl, hg, hF, hr⟩
  have hB := Aside0.mk (bel_fr hb.out hF (fun k hk => by omega))
  replace hr := Aside0.mk hr
  clear hg hF
  go_wp2
  (try go_ret)
  refine hQ.out b w2 hB.out (fun h => ?_)
  obtain ⟨h1, h2, h3, h4, h5⟩ := hr.out h
  exact ⟨h1, by omega, by omega⟩
/-! ### SaysJSON -/
set_option maxHeartbeats 8000000 in
set_option maxRecDepth 100000 in
theorem saysTree {o : ByteArray} {ys : List Int} (x : S28) (p : NA) (w : World) (hN : NH w x p) (hin : InV w x ys) (ho : bytesOf o = ys) (hu : U8 (fun _ => true) ys) (hos : o.size ≤ 2147483647) :
    Calls Tryz.prog 15 #[.string o, NV x p] w fun e w' => e = .returned (.bool true) ∧ Below w.heap.size w w' := by
  subst ho
  have hr := hu.runes (o.size + 1) (by rw [bytesOf_length]; omega)
  have hcall := isU o
  replace hin := Aside0.mk hin; replace hcall := Aside0.mk hcall; replace hr := Aside0.mk hr; replace hN := Aside0.mk hN
  obtain ⟨A3, c3, A4, c4, A5, c5, A9, c9⟩ := p
  have hv0 := fun g w1 h1 h2 => hin.out ⟨A3, c3, A4, c4, A5, c5, A9, c9⟩ g w1 o [] hN.out h1 h2 (by simp) (.inl rfl)
  unfold NV at hv0 ⊢
  dsimp only at hv0 ⊢
  have hb := below_alloc (Below.refl w.heap.size w) (.cells #[.int .i64 x.f0, .string x.f1, .int .i64 x.f2, .slice A3 x.f3.length c3, .slice A4 x.f4.length c4, .slice A5 x.f5.length c5, .string x.f6, .string x.f7, .string x.f8, .slice A9 x.f9.length c9] 28)
  have hk1 := heap_new w (.cells #[.int .i64 x.f0, .string x.f1, .int .i64 x.f2, .slice A3 x.f3.length c3, .slice A4 x.f4.length c4, .slice A5 x.f5.length c5, .string x.f6, .string x.f7, .string x.f8, .slice A9 x.f9.length c9] 28)
  replace hb := Aside0.mk hb; replace hk1 := Aside0.mk hk1; replace hv0 := Aside0.mk hv0
  clear hu
  go_enter Tryz.func15, Tryz.ntmps15
  go_wp2_with fail
  generalize w.alloc (.cells #[.int .i64 x.f0, .string x.f1, .int .i64 x.f2, .slice A3 x.f3.length c3, .slice A4 x.f4.length c4, .slice A5 x.f5.length c5, .string x.f6, .string x.f7, .string x.f8, .slice A9 x.f9.length c9] 28) = w1 at *
  obtain ⟨nb, hnb⟩ : ∃ nb, w.heap.size = nb := ⟨_, rfl⟩
  rw [hnb] at hk1 ⊢
  replace hnb := Aside0.mk hnb
  have hc2 := hcall.out w1 hos
  rw [hr.out] at hc2
  refine hc2.mono ?_
  rintro e w2 ⟨rfl, hb2⟩
  have hk2 := Aside0.mk (heap_below hb2 hk1.out)
  have hB2 := below_then hb.out hb.out.size hb2
  clear hb2 hc2 hk1
  have hIn := IsS80.new w w2 o false hB2
  have hB3 := Aside0.mk (below_alloc hB2 (.cells #[.string o, .bool false] 80))
  have hk3 := heap_old hk2.out (.cells #[.string o, .bool false] 80)
  have q0 := cell_at hk3 0; have q1 := cell_at hk3 1; have q2 := cell_at hk3 2; have q3 := cell_at hk3 3; have q4 := cell_at hk3 4; have q5 := cell_at hk3 5; have q6 := cell_at hk3 6; have q7 := cell_at hk3 7; have q8 := cell_at hk3 8; have q9 := cell_at hk3 9
  simp at q0 q1 q2 q3 q4 q5 q6 q7 q8 q9
  replace hk3 := Aside0.mk hk3; replace hIn := Aside0.mk hIn
  clear hk2 hB2
  go_wp2_with fail
  generalize w2.alloc (.cells #[.string o, .bool false] 80) = w3 at *
  obtain ⟨g, hg⟩ : ∃ g, w2.heap.size = g := ⟨_, rfl⟩
  rw [hg] at hIn ⊢
  refine (hv0.out g w3 hIn.out hB3.out).mono ?_
  rintro e w4 ⟨rfl, s', hs', hI4, hB4, _⟩
  obtain rfl : s' = ⟨#[]⟩ := bytes_inj (hs'.trans (by decide))
  replace hI4 := Aside0.mk hI4; replace hB4 := Aside0.mk hB4
  clear q0 q1 q2 q3 q4 q5 q6 q7 q8 q9 hs'
  go_wp2_with fail
  refine (spec_reader_space.calls 1 g ⟨#[]⟩ false ⟨#[]⟩ false w w4 hI4.out hB4.out (space_nil 0 ⟨#[]⟩ (by decide))).mono ?_
  rintro e w5 ⟨rfl, hI5, hB5, _⟩
  have c0 := cellS80_0 hI5.1; have c1 := cellS80_1 hI5.1
  replace hI5 := Aside0.mk hI5; replace hB5 := Aside0.mk hB5
  go_wp2
  go_ret
  exact ⟨rfl, hB5.out⟩
end H
end Go.Proofs.YtkihaebaccdjdaaGreatDoor
