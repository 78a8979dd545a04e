-- printed by this session's own program over the kit's print.py; Lean checks it
import Derived.Test.YtclmjmfcggkpaaaGreatDoorPXx0
import Derived.Test.YtclmjmfcggkpaaaGreatDoorPD
import Derived.Test.YtclmjmfcggkpaaaGreatDoorPA
import Derived.Test.YtclmjmfcggkpaaaGreatDoorHLabel
namespace Go.Proofs.YtclmjmfcggkpaaaGreatDoor.PX
open Go.RowKit Go.Proofs.YtclmjmfcggkpaaaGreatDoorW.PrintWords Go.Proofs.YtclmjmfcggkpaaaGreatDoorW.PrintLast Go.Proofs.YtclmjmfcggkpaaaGreatDoorW.PrintMore
attribute [local go_sem] max2_int min2_int max_two min_two max_three min_three max_four min_four   -- for this text's walks alone
set_option linter.unusedVariables false
set_option linter.unusedSimpArgs false

/-! ### spec_Filled: function 20 -/
mutual
def spec_Filled.l0 : Nat → List (S65) → ByteArray → ByteArray → List ByteArray → Int → Int → Option (ByteArray × ByteArray)
  | 0, _, _, _, _, _, _ => none
  | k + 1, x1, x6, x7, x17, x18, x19 => if x19 < x18 then (if 0 ≤ x19 then (if x19 < (x17.length : Int) then (if x6.size + 1 ≤ 9223372036854775807 then (if x7.size + 1 ≤ 9223372036854775807 then ((spec_label.f (rdOf ByteArray.empty x17 x19)).bind fun bt395 => (if bt395.2.2 = true then (spec_Filled.l1 k x1 (x6 ++ (⟨#[47]⟩ : ByteArray)) (x7 ++ (⟨#[47]⟩ : ByteArray)) bt395.1 bt395.2.1 x17 x18 x19 x1 (x1.length : Int) 0) else (if (x6 ++ (⟨#[47]⟩ : ByteArray)).size + (rdOf ByteArray.empty x17 x19).size ≤ 9223372036854775807 then (if (x7 ++ (⟨#[47]⟩ : ByteArray)).size + (rdOf ByteArray.empty x17 x19).size ≤ 9223372036854775807 then (spec_Filled.l0 k x1 ((x6 ++ (⟨#[47]⟩ : ByteArray)) ++ (rdOf ByteArray.empty x17 x19)) ((x7 ++ (⟨#[47]⟩ : ByteArray)) ++ (rdOf ByteArray.empty x17 x19)) x17 x18 (wrap64 (x19 + 1))) else (none)) else (none)))) else (none)) else (none)) else (none)) else (none)) else (some (x6, x7))
def spec_Filled.l1 : Nat → List (S65) → ByteArray → ByteArray → ByteArray → Bool → List ByteArray → Int → Int → List (S65) → Int → Int → Option (ByteArray × ByteArray)
  | 0, _, _, _, _, _, _, _, _, _, _, _ => none
  | k + 1, x1, x6, x7, x10, x11, x17, x18, x19, x41, x42, x43 => if x43 < x42 then (if 0 ≤ x43 then (if x43 < (x41.length : Int) then (if ((rd_T65 x41 x43).f0).toList = x10.toList then (if x6.size + ((rd_T65 x41 x43).f1).size ≤ 9223372036854775807 then ((spec_Escaped.f k ((rd_T65 x41 x43).f1) x11).bind fun t400 => (if x7.size + t400.size ≤ 9223372036854775807 then (spec_Filled.l1 k x1 (x6 ++ ((rd_T65 x41 x43).f1)) (x7 ++ t400) x10 x11 x17 x18 x19 x41 x42 (wrap64 (x43 + 1))) else (none))) else (none)) else (spec_Filled.l1 k x1 x6 x7 x10 x11 x17 x18 x19 x41 x42 (wrap64 (x43 + 1)))) else (none)) else (none)) else (spec_Filled.l0 k x1 x6 x7 x17 x18 (wrap64 (x19 + 1)))
end
def spec_Filled.f (k : Nat) (a0 : ByteArray) (l1 : List (S65)) : Option (ByteArray × ByteArray) := if 1 ≤ (a0.size : Int) then ((spec_split.f k (a0.extract 1 a0.size) 47).bind fun t391 => (spec_Filled.l0 k l1 (⟨#[]⟩ : ByteArray) (⟨#[]⟩ : ByteArray) t391 (t391.length : Int) 0)) else (none)
theorem spec_Filled.mono_l : ∀ k, (∀ y0 y1 y2 y3 y4 y5, LeO (spec_Filled.l0 k y0 y1 y2 y3 y4 y5) (spec_Filled.l0 (k + 1) y0 y1 y2 y3 y4 y5)) ∧ (∀ y0 y1 y2 y3 y4 y5 y6 y7 y8 y9 y10, LeO (spec_Filled.l1 k y0 y1 y2 y3 y4 y5 y6 y7 y8 y9 y10) (spec_Filled.l1 (k + 1) y0 y1 y2 y3 y4 y5 y6 y7 y8 y9 y10))
  | 0 => ⟨fun _ _ _ _ _ _ r h => by simp [spec_Filled.l0] at h, fun _ _ _ _ _ _ _ _ _ _ _ r h => by simp [spec_Filled.l1] at h⟩
  | k + 1 => by
    obtain ⟨ih0, ih1⟩ := spec_Filled.mono_l k
    refine ⟨?_, ?_⟩
    · intro y0 y1 y2 y3 y4 y5
      unfold spec_Filled.l0
      repeat' first
      | (with_reducible exact ih0 _ _ _ _ _ _)
      | (with_reducible exact ih1 _ _ _ _ _ _ _ _ _ _ _)
      | (with_reducible exact spec_Escaped.mono _ _ _)
      | (with_reducible exact spec_split.mono _ _ _)
      | (with_reducible exact LeO.refl _)
      | (with_reducible exact LeO.none _)
      | (with_reducible refine LeO.ite ?_ ?_)
      | (with_reducible refine LeO.bind ?_ (fun _ => ?_))
      | exact ih0 _ _ _ _ _ _
      | exact ih1 _ _ _ _ _ _ _ _ _ _ _
      | exact spec_Escaped.mono _ _ _
      | exact spec_split.mono _ _ _
      | exact LeO.none _
      | refine LeO.ite ?_ ?_
      | refine LeO.bind ?_ (fun _ => ?_)
    · intro y0 y1 y2 y3 y4 y5 y6 y7 y8 y9 y10
      unfold spec_Filled.l1
      repeat' first
      | (with_reducible exact ih0 _ _ _ _ _ _)
      | (with_reducible exact ih1 _ _ _ _ _ _ _ _ _ _ _)
      | (with_reducible exact spec_Escaped.mono _ _ _)
      | (with_reducible exact spec_split.mono _ _ _)
      | (with_reducible exact LeO.refl _)
      | (with_reducible exact LeO.none _)
      | (with_reducible refine LeO.ite ?_ ?_)
      | (with_reducible refine LeO.bind ?_ (fun _ => ?_))
      | exact ih0 _ _ _ _ _ _
      | exact ih1 _ _ _ _ _ _ _ _ _ _ _
      | exact spec_Escaped.mono _ _ _
      | exact spec_split.mono _ _ _
      | exact LeO.none _
      | refine LeO.ite ?_ ?_
      | refine LeO.bind ?_ (fun _ => ?_)
theorem spec_Filled.mono : ∀ a0 a1 k, LeO (spec_Filled.f k a0 a1) (spec_Filled.f (k + 1) a0 a1) := by
  intro a0 a1 k
  obtain ⟨ih0, ih1⟩ := spec_Filled.mono_l k
  unfold spec_Filled.f
  repeat' first
      | (with_reducible exact ih0 _ _ _ _ _ _)
      | (with_reducible exact ih1 _ _ _ _ _ _ _ _ _ _ _)
      | (with_reducible exact spec_Escaped.mono _ _ _)
      | (with_reducible exact spec_split.mono _ _ _)
      | (with_reducible exact LeO.refl _)
      | (with_reducible exact LeO.none _)
      | (with_reducible refine LeO.ite ?_ ?_)
      | (with_reducible refine LeO.bind ?_ (fun _ => ?_))
      | exact ih0 _ _ _ _ _ _
      | exact ih1 _ _ _ _ _ _ _ _ _ _ _
      | exact spec_Escaped.mono _ _ _
      | exact spec_split.mono _ _ _
      | exact LeO.none _
      | refine LeO.ite ?_ ?_
      | refine LeO.bind ?_ (fun _ => ?_)
set_option maxHeartbeats 8000000 in
set_option maxRecDepth 100000 in
theorem spec_Filled.calls (k : Nat) (a0 : ByteArray) (A1 : Option Addr) (c1 : Nat) (l1 : List (S65)) (r1 : ByteArray) (r2 : ByteArray) (w : World) (hr1 : Kd.C k65 w A1 l1.length l1) (hc1 : l1.length ≤ c1) (h : spec_Filled.f k a0 l1 = some (r1, r2)) :
    Calls Tryz.prog 20 #[.string a0, .slice A1 l1.length c1] w fun e w' => e = .returned (.tuple #[.string r1, .string r2]) ∧ Below w.heap.size w w' := by
  have hu65 := Tryz.underlying65
  have HR1 := Aside0.mk hr1
  have HC1 := Aside0.mk hc1
  clear hr1 hc1
  have HB := Aside0.mk (Below.refl w.heap.size w)
  have H : (if 1 ≤ (a0.size : Int) then ((spec_split.f k (a0.extract 1 a0.size) 47).bind fun t391 => (spec_Filled.l0 k l1 (⟨#[]⟩ : ByteArray) (⟨#[]⟩ : ByteArray) t391 (t391.length : Int) 0)) else (none)) = some (r1, r2) := h
  clear h
  by_cases c3 : 1 ≤ (a0.size : Int)
  · rw [if_pos c3] at H
    have c3b0 := eq_true c3
    have c3b1 : decide (1 ≤ (a0.size : Int)) = true := decide_eq_true c3
    clear c3
    replace H := Option.bind_eq_some_iff.mp H
    obtain ⟨t391, A40, H⟩ := H
    replace H : (spec_Filled.l0 k l1 (⟨#[]⟩ : ByteArray) (⟨#[]⟩ : ByteArray) t391 (t391.length : Int) 0) = some (r1, r2) := H
    have A4 := Aside0.mk A40
    clear A40
    have H' := Aside0.mk H
    clear H
    go_enter Tryz.func20, Tryz.ntmps20
    go_wp2_with (first | ((with_reducible refine gate_callee (f := 50) rfl ?_); refine goesL_ (some 17) rfl rfl Tryz.func50 (by kernel_rfl) rfl #[.string (a0.extract 1 a0.size), .int .u8 47] rfl (by (try simp only [List.map_toArray, List.map_cons, List.map_nil]); first | done | rfl | (simp only [List.length_drop, List.length_take]; rfl)) ?_; (with_reducible refine (spec_split.calls k (a0.extract 1 a0.size) 47 t391 _ A4.out).mono ?_); rintro e w5 ⟨v392, rfl, ho0, hb⟩; refine ⟨_, rfl, ?_⟩; have n0_ := Aside0.mk (Kd.R_lower ho0 (below_size (by repeat (first | (with_reducible first | exact HB.out | apply below_alloc | apply pw_below_drewN | apply below_drew1) | exact HB.out)))); have n1_ := Aside0.mk (below_step (by repeat (first | (with_reducible first | exact HB.out | apply below_alloc | apply pw_below_drewN | apply below_drew1) | exact HB.out)) hb); clear HB; have HO393 := n0_; have HB := n1_; clear n0_ n1_; (try clear hb); (try clear hb2); (try clear hk); (try clear hi); (try clear ho0); obtain ⟨Ao6, co6, eo6⟩ := Kd.R_slice HO393.out; subst eo6))
    go_loopg [6, 7, 19] k (fun kq v6 v7 v19 w' => ∃ (x6_1 : ByteArray) (x7_1 : ByteArray) (x19_1 : Int), v6 = .string x6_1 ∧ v7 = .string x7_1 ∧ v19 = .int .i64 x19_1 ∧ Aside0 (spec_Filled.l0 kq l1 x6_1 x7_1 t391 (t391.length : Int) x19_1 = some (r1, r2)) ∧ Aside0 (kq ≤ k) ∧ Aside0 (Kd.R Kd.string 9 w' w.heap.size (fun _ => True) (.slice Ao6 t391.length co6) t391) ∧ Aside0 (Below w.heap.size w w'))
    case atStart => exact ⟨((⟨#[]⟩ : ByteArray)), ((⟨#[]⟩ : ByteArray)), (0), (by first | rfl | (simp; done) | (simp [*]; done)), (by first | rfl | (simp; done) | (simp [*]; done)), (by first | rfl | (simp; done) | (simp [*]; done)), H', ⟨Nat.le_refl _⟩, ⟨by (with_reducible repeat (first | apply Kd.R_alloc | apply Kd.R_drewN | apply Kd.R_drew)); exact HO393.out⟩, ⟨by repeat (first | (with_reducible first | exact HB.out | apply below_alloc | apply pw_below_drewN | apply below_drew1) | exact HB.out)⟩⟩
    case round =>
      clear H'
      try clear c1
      try clear c2
      try clear p2
      try clear c3
      try clear c3b0
      try clear c3b1
      try clear c5
      obtain ⟨x6_1, x7_1, x19_1, rfl, rfl, rfl, HA, HK1, HO_17, HB⟩ := hrel
      cases gk with
      | zero => exact absurd HA.out (by simp [spec_Filled.l0])
      | succ k1 =>
        have H := HA.out
        clear HA
        simp only [spec_Filled.l0] at H
        by_cases c7 : x19_1 < (t391.length : Int)
        · rw [if_pos c7] at H
          have c7b0 : decide (x19_1 < (t391.length : Int)) = true := decide_eq_true c7
          clear c7
          by_cases c8 : 0 ≤ x19_1
          · rw [if_pos c8] at H
            have c8b0 : decide (0 ≤ x19_1) = true := decide_eq_true c8
            clear c8
            by_cases c9 : x19_1 < (t391.length : Int)
            · rw [if_pos c9] at H
              have c9b0 : decide (x19_1 < (t391.length : Int)) = true := decide_eq_true c9
              clear c9
              by_cases c10 : x6_1.size + 1 ≤ 9223372036854775807
              · rw [if_pos c10] at H
                have c10b0 := eq_true c10
                have c10b1 : decide (x6_1.size + 1 ≤ 9223372036854775807) = true := decide_eq_true c10
                try have c10b2 : (9223372036854775807 < x6_1.size + 1) = False := eq_false (Nat.not_lt.2 c10)
                by_cases c11 : x7_1.size + 1 ≤ 9223372036854775807
                · rw [if_pos c11] at H
                  have c11b0 := eq_true c11
                  have c11b1 : decide (x7_1.size + 1 ≤ 9223372036854775807) = true := decide_eq_true c11
                  try have c11b2 : (9223372036854775807 < x7_1.size + 1) = False := eq_false (Nat.not_lt.2 c11)
                  replace H := Option.bind_eq_some_iff.mp H
                  obtain ⟨⟨t395, t396, t397⟩, A120, H⟩ := H
                  replace H : (if t397 = true then (spec_Filled.l1 k1 l1 (x6_1 ++ (⟨#[47]⟩ : ByteArray)) (x7_1 ++ (⟨#[47]⟩ : ByteArray)) t395 t396 t391 (t391.length : Int) x19_1 l1 (l1.length : Int) 0) else (if (x6_1 ++ (⟨#[47]⟩ : ByteArray)).size + (rdOf ByteArray.empty t391 x19_1).size ≤ 9223372036854775807 then (if (x7_1 ++ (⟨#[47]⟩ : ByteArray)).size + (rdOf ByteArray.empty t391 x19_1).size ≤ 9223372036854775807 then (spec_Filled.l0 k1 l1 ((x6_1 ++ (⟨#[47]⟩ : ByteArray)) ++ (rdOf ByteArray.empty t391 x19_1)) ((x7_1 ++ (⟨#[47]⟩ : ByteArray)) ++ (rdOf ByteArray.empty t391 x19_1)) t391 (t391.length : Int) (wrap64 (x19_1 + 1))) else (none)) else (none))) = some (r1, r2) := H
                  have A12 := Aside0.mk A120
                  clear A120
                  by_cases c13 : t397 = true
                  · subst c13
                    have H1 : (spec_Filled.l1 k1 l1 (x6_1 ++ (⟨#[47]⟩ : ByteArray)) (x7_1 ++ (⟨#[47]⟩ : ByteArray)) t395 t396 t391 (t391.length : Int) x19_1 l1 (l1.length : Int) 0) = some (r1, r2) := by rw [if_pos rfl] at H; exact H
                    clear H
                    have H := H1
                    clear H1
                    have H' := Aside0.mk H
                    clear H
                    have p394 : 0 ≤ (x19_1 : Int) := of_decide_eq_true (by first | (with_reducible assumption) | assumption)
                    have q394 : x19_1 < (t391.length : Int) := of_decide_eq_true (by first | (with_reducible assumption) | assumption)
                    obtain ⟨ad394, e394, hx394_0⟩ := Kd.at_string (Kd.R_reads' HO_17.out).2.2 x19_1 p394 q394
                    cases e394
                    replace p394 := eq_true p394
                    replace q394 := eq_true q394
                    go_wp2_with (first | ((with_reducible refine gate_callee (f := 51) rfl ?_); refine goesL_ (some 29) rfl rfl Tryz.func51 (by kernel_rfl) rfl #[.string (rdOf ByteArray.empty t391 x19_1)] rfl (by (try simp only [List.map_toArray, List.map_cons, List.map_nil]); first | done | rfl | (simp only [List.length_drop, List.length_take]; rfl)) ?_; (with_reducible refine (spec_label.calls (rdOf ByteArray.empty t391 x19_1) t395 t396 true _ A12.out).mono ?_); rintro e w' ⟨rfl, ⟨nd, rfl⟩⟩; refine ⟨_, rfl, ?_⟩))
                    go_loopg [6, 7, 43] k1 (fun kq v6 v7 v43 w' => ∃ (x6_2 : ByteArray) (x7_2 : ByteArray) (x43_2 : Int), v6 = .string x6_2 ∧ v7 = .string x7_2 ∧ v43 = .int .i64 x43_2 ∧ Aside0 (spec_Filled.l1 kq l1 x6_2 x7_2 t395 t396 t391 (t391.length : Int) x19_1 l1 (l1.length : Int) x43_2 = some (r1, r2)) ∧ Aside0 (kq ≤ k1) ∧ Aside0 (Kd.R Kd.string 9 w' w.heap.size (fun _ => True) (.slice (some ad394) t391.length co6) t391) ∧ Aside0 (Below w.heap.size w w'))
                    case atStart => exact ⟨(x6_1 ++ (⟨#[47]⟩ : ByteArray)), (x7_1 ++ (⟨#[47]⟩ : ByteArray)), (0), (by first | rfl | (simp; done) | (simp [*]; done)), (by first | rfl | (simp; done) | (simp [*]; done)), (by first | rfl | (simp; done) | (simp [*]; done)), H', ⟨Nat.le_refl _⟩, ⟨by (with_reducible repeat (first | apply Kd.R_alloc | apply Kd.R_drewN | apply Kd.R_drew)); exact HO_17.out⟩, ⟨by repeat (first | (with_reducible first | exact HB.out | apply below_alloc | apply pw_below_drewN | apply below_drew1) | exact HB.out)⟩⟩
                    case round =>
                      clear H'
                      try clear c1
                      try clear c2
                      try clear p2
                      try clear c3
                      try clear c3b0
                      try clear c3b1
                      try clear p3
                      try clear q3
                      try clear hx3
                      try clear c5
                      try clear p6
                      try clear c7
                      try clear c7b0
                      try clear c8
                      try clear c8b0
                      try clear c9
                      try clear c9b0
                      try clear c10
                      try clear c10b0
                      try clear c10b1
                      try clear c10b2
                      try clear c11
                      try clear c11b0
                      try clear c11b1
                      try clear c11b2
                      try clear c13
                      try clear hx394_0
                      try clear p2
                      try clear p394
                      try clear q394
                      obtain ⟨x6_2, x7_2, x43_2, rfl, rfl, rfl, HA, HK2, HO_17, HB⟩ := hrel
                      cases gk with
                      | zero => exact absurd HA.out (by simp [spec_Filled.l1])
                      | succ k2 =>
                        have H := HA.out
                        clear HA
                        simp only [spec_Filled.l1] at H
                        by_cases c14 : x43_2 < (l1.length : Int)
                        · rw [if_pos c14] at H
                          have c14b0 : decide (x43_2 < (l1.length : Int)) = true := decide_eq_true c14
                          clear c14
                          by_cases c15 : 0 ≤ x43_2
                          · rw [if_pos c15] at H
                            have c15b0 : decide (0 ≤ x43_2) = true := decide_eq_true c15
                            clear c15
                            by_cases c16 : x43_2 < (l1.length : Int)
                            · rw [if_pos c16] at H
                              have c16b0 : decide (x43_2 < (l1.length : Int)) = true := decide_eq_true c16
                              clear c16
                              by_cases c17 : ((rd_T65 l1 x43_2).f0).toList = t395.toList
                              · rw [if_pos c17] at H
                                have c17b0 : (((rd_T65 l1 x43_2).f0).toList == t395.toList) = true := beq_iff_eq.mpr c17
                                have c17b1 : (((rd_T65 l1 x43_2).f0).toList != t395.toList) = false := bne_eq_false_iff_eq.mpr c17
                                clear c17
                                by_cases c18 : x6_2.size + ((rd_T65 l1 x43_2).f1).size ≤ 9223372036854775807
                                · rw [if_pos c18] at H
                                  have c18b0 := eq_true c18
                                  have c18b1 : decide (x6_2.size + ((rd_T65 l1 x43_2).f1).size ≤ 9223372036854775807) = true := decide_eq_true c18
                                  try have c18b2 : (9223372036854775807 < x6_2.size + ((rd_T65 l1 x43_2).f1).size) = False := eq_false (Nat.not_lt.2 c18)
                                  replace H := Option.bind_eq_some_iff.mp H
                                  obtain ⟨t400, A190, H⟩ := H
                                  replace H : (if x7_2.size + t400.size ≤ 9223372036854775807 then (spec_Filled.l1 k2 l1 (x6_2 ++ ((rd_T65 l1 x43_2).f1)) (x7_2 ++ t400) t395 t396 t391 (t391.length : Int) x19_1 l1 (l1.length : Int) (wrap64 (x43_2 + 1))) else (none)) = some (r1, r2) := H
                                  have A19 := Aside0.mk A190
                                  clear A190
                                  by_cases c20 : x7_2.size + t400.size ≤ 9223372036854775807
                                  · rw [if_pos c20] at H
                                    have c20b0 := eq_true c20
                                    have c20b1 : decide (x7_2.size + t400.size ≤ 9223372036854775807) = true := decide_eq_true c20
                                    try have c20b2 : (9223372036854775807 < x7_2.size + t400.size) = False := eq_false (Nat.not_lt.2 c20)
                                    have H' := Aside0.mk H
                                    clear H
                                    have p398 : 0 ≤ (x43_2 : Int) := of_decide_eq_true (by first | (with_reducible assumption) | assumption)
                                    have q398 : x43_2 < (l1.length : Int) := of_decide_eq_true (by first | (with_reducible assumption) | assumption)
                                    obtain ⟨ad398, e398, hx398_0, hx398_1, hx398_2⟩ := at_T65 HR1.out x43_2 p398 q398
                                    cases e398
                                    replace hx398_0 := (HB.out.cell (World.block_lt_of_cell? w _ hx398_0)).trans hx398_0
                                    replace hx398_1 := (HB.out.cell (World.block_lt_of_cell? w _ hx398_1)).trans hx398_1
                                    replace hx398_2 := (HB.out.cell (World.block_lt_of_cell? w _ hx398_2)).trans hx398_2
                                    replace p398 := eq_true p398
                                    replace q398 := eq_true q398
                                    go_wp2_with (first | ((with_reducible refine gate_dst (N := 14) rfl ?_); refine box_event ?hg (N := 14) ?hd (cs := #[.string (⟨#[]⟩ : ByteArray), .string (⟨#[]⟩ : ByteArray), .bool false]) (t := 65) ?hr ?_; (case hd => rfl); (case hg => rfl); (case hr => first | (go_simp; done) | (go_simp; rfl)); intro gb399 hg w21 hbox hb; have n0_ := Aside0.mk (Kd.R_below (by (with_reducible repeat (first | apply Kd.R_alloc | apply Kd.R_drewN | apply Kd.R_drew)); exact HO_17.out) hb); have n1_ := Aside0.mk (below_step (by repeat (first | (with_reducible first | exact HB.out | apply below_alloc | apply pw_below_drewN | apply below_drew1) | exact HB.out)) hb); have n2_ := Aside0.mk (hbox); have n3_ := Aside0.mk ((by rw [hg]; exact (below_size (by repeat (first | (with_reducible first | exact HB.out | apply below_alloc | apply pw_below_drewN | apply below_drew1) | exact HB.out))) : w.heap.size ≤ gb399)); have n4_ := Aside0.mk ((by rw [hg]; exact (below_size (by repeat (first | (with_reducible first | exact HB.out | apply below_alloc | apply pw_below_drewN | apply below_drew1) | exact HB.out))) : w.heap.size ≤ gb399)); clear HO_17; clear HB; have HO_17 := n0_; have HB := n1_; have BK399 := n2_; have GW399 := n3_; have GE399 := n4_; clear n0_ n1_ n2_ n3_ n4_; clear hb hbox hg; have hcz22_0 : w21.cell? ⟨gb399, 0, none⟩ = some (.string (⟨#[]⟩ : ByteArray)) := (blk_cell BK399.out 0).trans rfl; have hcz22_1 : w21.cell? ⟨gb399, 1, none⟩ = some (.string (⟨#[]⟩ : ByteArray)) := (blk_cell BK399.out 1).trans rfl; have hcz22_2 : w21.cell? ⟨gb399, 2, none⟩ = some (.bool false) := (blk_cell BK399.out 2).trans rfl; have hfz22_0 := blk_frozen BK399.out 0; have hfz22_1 := blk_frozen BK399.out 1; have hfz22_2 := blk_frozen BK399.out 2) | ((with_reducible refine gate_callee (f := 29) rfl ?_); refine goesL_ (some 59) rfl rfl Tryz.func29 (by kernel_rfl) rfl #[.string ((rd_T65 l1 x43_2).f1), .bool t396] rfl (by (try simp only [List.map_toArray, List.map_cons, List.map_nil]); first | done | rfl | (simp only [List.length_drop, List.length_take]; rfl)) ?_; (with_reducible refine (spec_Escaped.calls k2 ((rd_T65 l1 x43_2).f1) t396 t400 _ A19.out).mono ?_); rintro e w23 ⟨rfl, hb⟩; refine ⟨_, rfl, ?_⟩; have n0_ := Aside0.mk (Kd.R_below (by (with_reducible repeat (first | apply Kd.R_alloc | apply Kd.R_drewN | apply Kd.R_drew)); exact (Kd.R_mono (Kd.R_far (p := ⟨gb399, 2, none⟩) (Kd.R_far (p := ⟨gb399, 1, none⟩) (Kd.R_far (p := ⟨gb399, 0, none⟩) (Kd.R_types HO_17.out BK399.out (by decide)) (fun _ hk => hk.2) (.string ((rd_T65 l1 x43_2).f0))) (fun _ hk => hk.2) (.string ((rd_T65 l1 x43_2).f1))) (fun _ hk => hk.2) (.bool ((rd_T65 l1 x43_2).f2))) (fun _ h_ => h_.1))) hb); have n1_ := Aside0.mk (blk_below (g := gb399) (o := .cells #[.string ((rd_T65 l1 x43_2).f0), .string ((rd_T65 l1 x43_2).f1), .bool ((rd_T65 l1 x43_2).f2)] 65 (0, 0)) (by (with_reducible repeat (first | refine blk_drewN ?_ _ | refine blk_drew ?_ | refine blk_alloc ?_ _)); refine blk_put (cs := #[.string ((rd_T65 l1 x43_2).f0), .string ((rd_T65 l1 x43_2).f1), .bool false]) ?_ 2 _ rfl; (with_reducible repeat (first | refine blk_drewN ?_ _ | refine blk_drew ?_ | refine blk_alloc ?_ _)); refine blk_put (cs := #[.string ((rd_T65 l1 x43_2).f0), .string (⟨#[]⟩ : ByteArray), .bool false]) ?_ 1 _ rfl; (with_reducible repeat (first | refine blk_drewN ?_ _ | refine blk_drew ?_ | refine blk_alloc ?_ _)); refine blk_put (cs := #[.string (⟨#[]⟩ : ByteArray), .string (⟨#[]⟩ : ByteArray), .bool false]) ?_ 0 _ rfl; (with_reducible repeat (first | refine blk_drewN ?_ _ | refine blk_drew ?_ | refine blk_alloc ?_ _)); exact BK399.out) hb); have n2_ := Aside0.mk (below_step (by repeat (first | (with_reducible first | exact HB.out | apply below_alloc | apply pw_below_drewN | apply below_drew1 | refine below_set ?_ GE399.out) | exact HB.out)) hb); clear HO_17; clear BK399; clear HB; have HO_17 := n0_; have BK399 := n1_; have HB := n2_; clear n0_ n1_ n2_; (try clear hb); (try clear hb2); (try clear hk); (try clear hi)))
                                    go_roundg k2
                                    case measure => have := HK1.out; have := HK2.out; omega
                                    case rel => exact ⟨(x6_2 ++ ((rd_T65 l1 x43_2).f1)), (x7_2 ++ t400), (wrap64 (x43_2 + 1)), (by first | rfl | (simp; done) | (simp [*]; done)), (by first | rfl | (simp; done) | (simp [*]; done)), (by first | rfl | (simp; done) | (simp [*]; done)), H', ⟨by have := HK1.out; have := HK2.out; omega⟩, ⟨by (with_reducible repeat (first | apply Kd.R_alloc | apply Kd.R_drewN | apply Kd.R_drew)); exact HO_17.out⟩, ⟨by repeat (first | (with_reducible first | exact HB.out | apply below_alloc | apply pw_below_drewN | apply below_drew1 | refine below_set ?_ GE399.out) | exact HB.out)⟩⟩
                                  · rw [if_neg c20] at H
                                    exact absurd H (by simp)
                                · rw [if_neg c18] at H
                                  exact absurd H (by simp)
                              · rw [if_neg c17] at H
                                have c17b0 : (((rd_T65 l1 x43_2).f0).toList == t395.toList) = false := beq_eq_false_iff_ne.mpr c17
                                have c17b1 : (((rd_T65 l1 x43_2).f0).toList != t395.toList) = true := bne_iff_ne.mpr c17
                                have H' := Aside0.mk H
                                clear H
                                have p398 : 0 ≤ (x43_2 : Int) := of_decide_eq_true (by first | (with_reducible assumption) | assumption)
                                have q398 : x43_2 < (l1.length : Int) := of_decide_eq_true (by first | (with_reducible assumption) | assumption)
                                obtain ⟨ad398, e398, hx398_0, hx398_1, hx398_2⟩ := at_T65 HR1.out x43_2 p398 q398
                                cases e398
                                replace hx398_0 := (HB.out.cell (World.block_lt_of_cell? w _ hx398_0)).trans hx398_0
                                replace hx398_1 := (HB.out.cell (World.block_lt_of_cell? w _ hx398_1)).trans hx398_1
                                replace hx398_2 := (HB.out.cell (World.block_lt_of_cell? w _ hx398_2)).trans hx398_2
                                replace p398 := eq_true p398
                                replace q398 := eq_true q398
                                go_wp2_with (first | ((with_reducible refine gate_dst (N := 14) rfl ?_); refine box_event ?hg (N := 14) ?hd (cs := #[.string (⟨#[]⟩ : ByteArray), .string (⟨#[]⟩ : ByteArray), .bool false]) (t := 65) ?hr ?_; (case hd => rfl); (case hg => rfl); (case hr => first | (go_simp; done) | (go_simp; rfl)); intro gb399 hg w24 hbox hb; have n0_ := Aside0.mk (Kd.R_below (by (with_reducible repeat (first | apply Kd.R_alloc | apply Kd.R_drewN | apply Kd.R_drew)); exact HO_17.out) hb); have n1_ := Aside0.mk (below_step (by repeat (first | (with_reducible first | exact HB.out | apply below_alloc | apply pw_below_drewN | apply below_drew1) | exact HB.out)) hb); have n2_ := Aside0.mk (hbox); have n3_ := Aside0.mk ((by rw [hg]; exact (below_size (by repeat (first | (with_reducible first | exact HB.out | apply below_alloc | apply pw_below_drewN | apply below_drew1) | exact HB.out))) : w.heap.size ≤ gb399)); have n4_ := Aside0.mk ((by rw [hg]; exact (below_size (by repeat (first | (with_reducible first | exact HB.out | apply below_alloc | apply pw_below_drewN | apply below_drew1) | exact HB.out))) : w.heap.size ≤ gb399)); clear HO_17; clear HB; have HO_17 := n0_; have HB := n1_; have BK399 := n2_; have GW399 := n3_; have GE399 := n4_; clear n0_ n1_ n2_ n3_ n4_; clear hb hbox hg; have hcz25_0 : w24.cell? ⟨gb399, 0, none⟩ = some (.string (⟨#[]⟩ : ByteArray)) := (blk_cell BK399.out 0).trans rfl; have hcz25_1 : w24.cell? ⟨gb399, 1, none⟩ = some (.string (⟨#[]⟩ : ByteArray)) := (blk_cell BK399.out 1).trans rfl; have hcz25_2 : w24.cell? ⟨gb399, 2, none⟩ = some (.bool false) := (blk_cell BK399.out 2).trans rfl; have hfz25_0 := blk_frozen BK399.out 0; have hfz25_1 := blk_frozen BK399.out 1; have hfz25_2 := blk_frozen BK399.out 2))
                                go_roundg k2
                                case measure => have := HK1.out; have := HK2.out; omega
                                case rel => exact ⟨(x6_2), (x7_2), (wrap64 (x43_2 + 1)), (by first | rfl | (simp; done) | (simp [*]; done)), (by first | rfl | (simp; done) | (simp [*]; done)), (by first | rfl | (simp; done) | (simp [*]; done)), H', ⟨by have := HK1.out; have := HK2.out; omega⟩, ⟨by (with_reducible repeat (first | apply Kd.R_alloc | apply Kd.R_drewN | apply Kd.R_drew)); exact Kd.R_mono (Kd.R_far (p := ⟨gb399, 2, none⟩) (Kd.R_far (p := ⟨gb399, 1, none⟩) (Kd.R_far (p := ⟨gb399, 0, none⟩) (Kd.R_types HO_17.out BK399.out (by decide)) (fun _ hk => hk.2) (.string ((rd_T65 l1 x43_2).f0))) (fun _ hk => hk.2) (.string ((rd_T65 l1 x43_2).f1))) (fun _ hk => hk.2) (.bool ((rd_T65 l1 x43_2).f2))) (fun _ hk => trivial)⟩, ⟨by repeat (first | (with_reducible first | exact HB.out | apply below_alloc | apply pw_below_drewN | apply below_drew1 | refine below_set ?_ GE399.out) | exact HB.out)⟩⟩
                            · rw [if_neg c16] at H
                              exact absurd H (by simp)
                          · rw [if_neg c15] at H
                            exact absurd H (by simp)
                        · rw [if_neg c14] at H
                          have c14b0 : decide (x43_2 < (l1.length : Int)) = false := decide_eq_false c14
                          clear c14
                          have H' := Aside0.mk H
                          clear H
                          go_wp2
                          go_roundg k2
                          case measure => have := HK1.out; have := HK2.out; omega
                          case rel => exact ⟨(x6_2), (x7_2), (wrap64 (x19_1 + 1)), (by first | rfl | (simp; done) | (simp [*]; done)), (by first | rfl | (simp; done) | (simp [*]; done)), (by first | rfl | (simp; done) | (simp [*]; done)), H', ⟨by have := HK1.out; have := HK2.out; omega⟩, ⟨by (with_reducible repeat (first | apply Kd.R_alloc | apply Kd.R_drewN | apply Kd.R_drew)); exact HO_17.out⟩, ⟨by repeat (first | (with_reducible first | exact HB.out | apply below_alloc | apply pw_below_drewN | apply below_drew1) | exact HB.out)⟩⟩
                  · replace c13 := Bool.eq_false_iff.mpr c13
                    subst c13
                    have H1 : (if (x6_1 ++ (⟨#[47]⟩ : ByteArray)).size + (rdOf ByteArray.empty t391 x19_1).size ≤ 9223372036854775807 then (if (x7_1 ++ (⟨#[47]⟩ : ByteArray)).size + (rdOf ByteArray.empty t391 x19_1).size ≤ 9223372036854775807 then (spec_Filled.l0 k1 l1 ((x6_1 ++ (⟨#[47]⟩ : ByteArray)) ++ (rdOf ByteArray.empty t391 x19_1)) ((x7_1 ++ (⟨#[47]⟩ : ByteArray)) ++ (rdOf ByteArray.empty t391 x19_1)) t391 (t391.length : Int) (wrap64 (x19_1 + 1))) else (none)) else (none)) = some (r1, r2) := by rw [if_neg (show ¬ (false = true) by decide)] at H; exact H
                    clear H
                    have H := H1
                    clear H1
                    by_cases c26 : (x6_1 ++ (⟨#[47]⟩ : ByteArray)).size + (rdOf ByteArray.empty t391 x19_1).size ≤ 9223372036854775807
                    · rw [if_pos c26] at H
                      have c26b0 := eq_true c26
                      have c26b1 : decide ((x6_1 ++ (⟨#[47]⟩ : ByteArray)).size + (rdOf ByteArray.empty t391 x19_1).size ≤ 9223372036854775807) = true := decide_eq_true c26
                      try have c26b2 : (9223372036854775807 < (x6_1 ++ (⟨#[47]⟩ : ByteArray)).size + (rdOf ByteArray.empty t391 x19_1).size) = False := eq_false (Nat.not_lt.2 c26)
                      by_cases c27 : (x7_1 ++ (⟨#[47]⟩ : ByteArray)).size + (rdOf ByteArray.empty t391 x19_1).size ≤ 9223372036854775807
                      · rw [if_pos c27] at H
                        have c27b0 := eq_true c27
                        have c27b1 : decide ((x7_1 ++ (⟨#[47]⟩ : ByteArray)).size + (rdOf ByteArray.empty t391 x19_1).size ≤ 9223372036854775807) = true := decide_eq_true c27
                        try have c27b2 : (9223372036854775807 < (x7_1 ++ (⟨#[47]⟩ : ByteArray)).size + (rdOf ByteArray.empty t391 x19_1).size) = False := eq_false (Nat.not_lt.2 c27)
                        have H' := Aside0.mk H
                        clear H
                        have p394 : 0 ≤ (x19_1 : Int) := of_decide_eq_true (by first | (with_reducible assumption) | assumption)
                        have q394 : x19_1 < (t391.length : Int) := of_decide_eq_true (by first | (with_reducible assumption) | assumption)
                        obtain ⟨ad394, e394, hx394_0⟩ := Kd.at_string (Kd.R_reads' HO_17.out).2.2 x19_1 p394 q394
                        cases e394
                        replace p394 := eq_true p394
                        replace q394 := eq_true q394
                        go_wp2_with (first | ((with_reducible refine gate_callee (f := 51) rfl ?_); refine goesL_ (some 29) rfl rfl Tryz.func51 (by kernel_rfl) rfl #[.string (rdOf ByteArray.empty t391 x19_1)] rfl (by (try simp only [List.map_toArray, List.map_cons, List.map_nil]); first | done | rfl | (simp only [List.length_drop, List.length_take]; rfl)) ?_; (with_reducible refine (spec_label.calls (rdOf ByteArray.empty t391 x19_1) t395 t396 false _ A12.out).mono ?_); rintro e w' ⟨rfl, ⟨nd, rfl⟩⟩; refine ⟨_, rfl, ?_⟩))
                        go_roundg k1
                        case measure => have := HK1.out; omega
                        case rel => exact ⟨((x6_1 ++ (⟨#[47]⟩ : ByteArray)) ++ (rdOf ByteArray.empty t391 x19_1)), ((x7_1 ++ (⟨#[47]⟩ : ByteArray)) ++ (rdOf ByteArray.empty t391 x19_1)), (wrap64 (x19_1 + 1)), (by first | rfl | (simp; done) | (simp [*]; done)), (by first | rfl | (simp; done) | (simp [*]; done)), (by first | rfl | (simp; done) | (simp [*]; done)), H', ⟨by have := HK1.out; omega⟩, ⟨by (with_reducible repeat (first | apply Kd.R_alloc | apply Kd.R_drewN | apply Kd.R_drew)); exact HO_17.out⟩, ⟨by repeat (first | (with_reducible first | exact HB.out | apply below_alloc | apply pw_below_drewN | apply below_drew1) | exact HB.out)⟩⟩
                      · rw [if_neg c27] at H
                        exact absurd H (by simp)
                    · rw [if_neg c26] at H
                      exact absurd H (by simp)
                · rw [if_neg c11] at H
                  exact absurd H (by simp)
              · rw [if_neg c10] at H
                exact absurd H (by simp)
            · rw [if_neg c9] at H
              exact absurd H (by simp)
          · rw [if_neg c8] at H
            exact absurd H (by simp)
        · rw [if_neg c7] at H
          have c7b0 : decide (x19_1 < (t391.length : Int)) = false := decide_eq_false c7
          clear c7
          simp only [Option.some.injEq, Prod.mk.injEq] at H
          obtain ⟨rfl, rfl⟩ := H
          go_wp2
          go_ret2
          exact ⟨by first | rfl | (simp [errW_none, errW_some] <;> rfl) | (simp [*, errW_none, errW_some] <;> rfl), by repeat (first | (with_reducible first | exact HB.out | apply below_alloc | apply pw_below_drewN | apply below_drew1) | exact HB.out)⟩
  · rw [if_neg c3] at H
    exact absurd H (by simp)

end Go.Proofs.YtclmjmfcggkpaaaGreatDoor.PX
