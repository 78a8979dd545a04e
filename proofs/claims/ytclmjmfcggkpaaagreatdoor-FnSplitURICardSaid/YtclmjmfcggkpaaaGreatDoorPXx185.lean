-- printed by this session's own program over the kit's print.py; Lean checks it
import Derived.Test.YtclmjmfcggkpaaaGreatDoorPXx0
import Derived.Test.YtclmjmfcggkpaaaGreatDoorPXx184
namespace Go.Proofs.YtclmjmfcggkpaaaGreatDoor.PX
open Go.RowKit Go.Proofs.YtclmjmfcggkpaaaGreatDoorW.PrintWords Go.Proofs.YtclmjmfcggkpaaaGreatDoorW.PrintLast Go.Proofs.YtclmjmfcggkpaaaGreatDoorW.PrintMore
attribute [local go_sem] max2_int min2_int max_two min_two max_three min_three max_four min_four   -- for this text's walks alone
set_option linter.unusedVariables false
set_option linter.unusedSimpArgs false

/-! ### awsrestjson_SanitizeErrorCode: function 59 -/
def awsrestjson_SanitizeErrorCode.j0 : Nat → ByteArray → Option (ByteArray)
  | 0, _ => none
  | k + 1, x0 => (awsrestjson_cut.f k x0 (⟨#[35]⟩ : ByteArray)).bind fun t406 => (if t406 ≥ 0 then ((awsrestjson_cut.f k x0 (⟨#[35]⟩ : ByteArray)).bind fun t407 => (if 0 ≤ (wrap64 (t407 + 1)) then (if (wrap64 (t407 + 1)) ≤ (x0.size : Int) then (some (x0.extract ((wrap64 (t407 + 1)) : Int).toNat x0.size)) else (none)) else (none))) else (some x0))
def awsrestjson_SanitizeErrorCode.f (k : Nat) (a0 : ByteArray) : Option (ByteArray) := (awsrestjson_cut.f k a0 (⟨#[58]⟩ : ByteArray)).bind fun t404 => (if t404 ≥ 0 then ((awsrestjson_cut.f k a0 (⟨#[58]⟩ : ByteArray)).bind fun t405 => (if 0 ≤ t405 then (if t405 ≤ (a0.size : Int) then (awsrestjson_SanitizeErrorCode.j0 k (a0.extract 0 (t405 : Int).toNat)) else (none)) else (none))) else (awsrestjson_SanitizeErrorCode.j0 k a0))
theorem awsrestjson_SanitizeErrorCode.mono_l : ∀ k, (∀ y0, LeO (awsrestjson_SanitizeErrorCode.j0 k y0) (awsrestjson_SanitizeErrorCode.j0 (k + 1) y0))
  | 0 => fun _ r h => by simp [awsrestjson_SanitizeErrorCode.j0] at h
  | k + 1 => by
    have ih0 := awsrestjson_SanitizeErrorCode.mono_l k
    · intro y0
      unfold awsrestjson_SanitizeErrorCode.j0
      repeat' first
      | (with_reducible exact ih0 _)
      | (with_reducible exact awsrestjson_cut.mono _ _ _)
      | (with_reducible exact LeO.refl _)
      | (with_reducible exact LeO.none _)
      | (with_reducible refine LeO.ite ?_ ?_)
      | (with_reducible refine LeO.bind ?_ (fun _ => ?_))
      | exact ih0 _
      | exact awsrestjson_cut.mono _ _ _
      | exact LeO.none _
      | refine LeO.ite ?_ ?_
      | refine LeO.bind ?_ (fun _ => ?_)
theorem awsrestjson_SanitizeErrorCode.mono : ∀ a0 k, LeO (awsrestjson_SanitizeErrorCode.f k a0) (awsrestjson_SanitizeErrorCode.f (k + 1) a0) := by
  intro a0 k
  have ih0 := awsrestjson_SanitizeErrorCode.mono_l k
  unfold awsrestjson_SanitizeErrorCode.f
  repeat' first
      | (with_reducible exact ih0 _)
      | (with_reducible exact awsrestjson_cut.mono _ _ _)
      | (with_reducible exact LeO.refl _)
      | (with_reducible exact LeO.none _)
      | (with_reducible refine LeO.ite ?_ ?_)
      | (with_reducible refine LeO.bind ?_ (fun _ => ?_))
      | exact ih0 _
      | exact awsrestjson_cut.mono _ _ _
      | exact LeO.none _
      | refine LeO.ite ?_ ?_
      | refine LeO.bind ?_ (fun _ => ?_)
set_option maxHeartbeats 8000000 in
set_option maxRecDepth 100000 in
theorem awsrestjson_SanitizeErrorCode.calls (k : Nat) (a0 : ByteArray) (r : ByteArray) (w : World) (h : awsrestjson_SanitizeErrorCode.f k a0 = some r) :
    Calls Tryz.prog 59 #[.string a0] w fun e w' => e = .returned (.string r) ∧ Drawn0 w w' := by
  have H : ((awsrestjson_cut.f k a0 (⟨#[58]⟩ : ByteArray)).bind fun t404 => (if t404 ≥ 0 then ((awsrestjson_cut.f k a0 (⟨#[58]⟩ : ByteArray)).bind fun t405 => (if 0 ≤ t405 then (if t405 ≤ (a0.size : Int) then (awsrestjson_SanitizeErrorCode.j0 k (a0.extract 0 (t405 : Int).toNat)) else (none)) else (none))) else (awsrestjson_SanitizeErrorCode.j0 k a0))) = some r := h
  clear h
  replace H := Option.bind_eq_some_iff.mp H
  obtain ⟨t404, A20, H⟩ := H
  replace H : (if t404 ≥ 0 then ((awsrestjson_cut.f k a0 (⟨#[58]⟩ : ByteArray)).bind fun t405 => (if 0 ≤ t405 then (if t405 ≤ (a0.size : Int) then (awsrestjson_SanitizeErrorCode.j0 k (a0.extract 0 (t405 : Int).toNat)) else (none)) else (none))) else (awsrestjson_SanitizeErrorCode.j0 k a0)) = some r := H
  have A2 := Aside0.mk A20
  clear A20
  have HC3 := Aside0.mk H
  clear H
  go_enter Tryz.func59, Tryz.ntmps59
  go_upto_if 5 with (first | ((with_reducible refine gate_callee (f := 95) rfl ?_); refine goesL_ (some 4) rfl rfl Tryz.func95 (by kernel_rfl) rfl #[.string a0, .string (⟨#[58]⟩ : ByteArray)] rfl (by (try simp only [List.map_toArray, List.map_cons, List.map_nil]); first | done | rfl | (simp only [List.length_drop, List.length_take]; rfl)) ?_; (with_reducible refine (awsrestjson_cut.calls k a0 (⟨#[58]⟩ : ByteArray) t404 _ A2.out).mono ?_); rintro e w' ⟨rfl, ⟨nd, rfl⟩⟩; refine ⟨_, rfl, ?_⟩))
  (try simp only [Act.put, List.setIfInBounds_toArray, List.set_cons_zero, List.set_cons_succ])
  go_cut [0] (fun v0 wc => ∃ (kq : Nat) (x0_2 : ByteArray), v0 = .string x0_2 ∧ Aside0 (awsrestjson_SanitizeErrorCode.j0 kq x0_2 = some r) ∧ Aside0 (kq ≤ k) ∧ Drawn0 w wc)
  case first =>
    have H := HC3.out
    clear HC3
    by_cases c4 : t404 ≥ 0
    · rw [if_pos c4] at H
      have c4b0 : decide (0 ≤ t404) = true := decide_eq_true c4
      clear c4
      (first | rw [c4b0] | (simp only [i64_w, i32_w]; rw [c4b0]) | skip)
      replace H := Option.bind_eq_some_iff.mp H
      obtain ⟨t405, A50, H⟩ := H
      replace H : (if 0 ≤ t405 then (if t405 ≤ (a0.size : Int) then (awsrestjson_SanitizeErrorCode.j0 k (a0.extract 0 (t405 : Int).toNat)) else (none)) else (none)) = some r := H
      have A5 := Aside0.mk A50
      clear A50
      by_cases c6 : 0 ≤ t405
      · rw [if_pos c6] at H
        have c6b0 := eq_true c6
        have c6b1 : decide (0 ≤ t405) = true := decide_eq_true c6
        clear c6
        by_cases c7 : t405 ≤ (a0.size : Int)
        · rw [if_pos c7] at H
          have c7b0 := eq_true c7
          have c7b1 : decide (t405 ≤ (a0.size : Int)) = true := decide_eq_true c7
          clear c7
          have H' := Aside0.mk H
          clear H
          go_wp2_with (first | ((with_reducible refine gate_callee (f := 95) rfl ?_); refine goesL_ (some 8) rfl rfl Tryz.func95 (by kernel_rfl) rfl #[.string a0, .string (⟨#[58]⟩ : ByteArray)] rfl (by (try simp only [List.map_toArray, List.map_cons, List.map_nil]); first | done | rfl | (simp only [List.length_drop, List.length_take]; rfl)) ?_; (with_reducible refine (awsrestjson_cut.calls k a0 (⟨#[58]⟩ : ByteArray) t405 _ A5.out).mono ?_); rintro e w' ⟨rfl, ⟨nd, rfl⟩⟩; refine ⟨_, rfl, ?_⟩))
          go_meet
          case rel => exact ⟨_, (a0.extract 0 (t405 : Int).toNat), (by first | rfl | (simp; done) | (simp [*]; done)), H', ⟨by first | omega | exact Nat.le_refl _⟩, by repeat (first | exact Drawn0.refl _ | apply Drawn0.step)⟩
        · rw [if_neg c7] at H
          exact absurd H (by simp)
      · rw [if_neg c6] at H
        exact absurd H (by simp)
    · rw [if_neg c4] at H
      have c4b0 : decide (0 ≤ t404) = false := decide_eq_false c4
      clear c4
      (first | rw [c4b0] | (simp only [i64_w, i32_w]; rw [c4b0]) | skip)
      have H' := Aside0.mk H
      clear H
      go_wp2
      go_meet
      case rel => exact ⟨_, (a0), (by first | rfl | (simp; done) | (simp [*]; done)), H', ⟨by first | omega | exact Nat.le_refl _⟩, by repeat (first | exact Drawn0.refl _ | apply Drawn0.step)⟩
  case rest =>
    clear HC3
    try clear p2
    try clear c4
    try clear c4b0
    try clear c5
    try clear c6
    try clear c6b0
    try clear c6b1
    try clear c7
    try clear c7b0
    try clear c7b1
    obtain ⟨kq, x0_2, rfl, HA, HJ2, ⟨mc2, rfl⟩⟩ := hcut
    cases kq with
    | zero => exact absurd HA.out (by simp [awsrestjson_SanitizeErrorCode.j0])
    | succ kj2 =>
      have H := HA.out
      clear HA
      simp only [awsrestjson_SanitizeErrorCode.j0] at H
      replace H := Option.bind_eq_some_iff.mp H
      obtain ⟨t406, A80, H⟩ := H
      replace H : (if t406 ≥ 0 then ((awsrestjson_cut.f kj2 x0_2 (⟨#[35]⟩ : ByteArray)).bind fun t407 => (if 0 ≤ (wrap64 (t407 + 1)) then (if (wrap64 (t407 + 1)) ≤ (x0_2.size : Int) then (some (x0_2.extract ((wrap64 (t407 + 1)) : Int).toNat x0_2.size)) else (none)) else (none))) else (some x0_2)) = some r := H
      have A8 := Aside0.mk A80
      clear A80
      by_cases c9 : t406 ≥ 0
      · rw [if_pos c9] at H
        have c9b0 : decide (0 ≤ t406) = true := decide_eq_true c9
        clear c9
        replace H := Option.bind_eq_some_iff.mp H
        obtain ⟨t407, A100, H⟩ := H
        replace H : (if 0 ≤ (wrap64 (t407 + 1)) then (if (wrap64 (t407 + 1)) ≤ (x0_2.size : Int) then (some (x0_2.extract ((wrap64 (t407 + 1)) : Int).toNat x0_2.size)) else (none)) else (none)) = some r := H
        have A10 := Aside0.mk A100
        clear A100
        obtain ⟨ji11, hji11⟩ : ∃ j_ : Int, (wrap64 (t407 + 1)) = j_ := ⟨_, rfl⟩
        replace H : (if 0 ≤ (ji11) then (if (ji11) ≤ (x0_2.size : Int) then (some (x0_2.extract ((ji11) : Int).toNat x0_2.size)) else (none)) else (none)) = some r := by first | (rw [hji11] at H; exact H) | (simp only [hji11] at H ⊢; exact H)
        (try rw [hji11] at A8)
        (try rw [hji11] at A10)
        have hji11w : (IntKind.i64.wrap (t407 + 1)) = ji11 := (i64_w _).trans hji11
        by_cases c12 : 0 ≤ (ji11)
        · rw [if_pos c12] at H
          have c12b0 := eq_true c12
          have c12b1 : decide (0 ≤ (ji11)) = true := decide_eq_true c12
          clear c12
          by_cases c13 : (ji11) ≤ (x0_2.size : Int)
          · rw [if_pos c13] at H
            have c13b0 := eq_true c13
            have c13b1 : decide ((ji11) ≤ (x0_2.size : Int)) = true := decide_eq_true c13
            clear c13
            obtain rfl := Option.some.inj H
            go_wp2_with (first | ((with_reducible refine gate_callee (f := 95) rfl ?_); refine goesL_ (some 11) rfl rfl Tryz.func95 (by kernel_rfl) rfl #[.string x0_2, .string (⟨#[35]⟩ : ByteArray)] rfl (by (try simp only [List.map_toArray, List.map_cons, List.map_nil]); first | done | rfl | (simp only [List.length_drop, List.length_take]; rfl)) ?_; (with_reducible refine (awsrestjson_cut.calls kj2 x0_2 (⟨#[35]⟩ : ByteArray) t406 _ A8.out).mono ?_); rintro e w' ⟨rfl, ⟨nd, rfl⟩⟩; refine ⟨_, rfl, ?_⟩) | ((with_reducible refine gate_callee (f := 95) rfl ?_); refine goesL_ (some 15) rfl rfl Tryz.func95 (by kernel_rfl) rfl #[.string x0_2, .string (⟨#[35]⟩ : ByteArray)] rfl (by (try simp only [List.map_toArray, List.map_cons, List.map_nil]); first | done | rfl | (simp only [List.length_drop, List.length_take]; rfl)) ?_; (with_reducible refine (awsrestjson_cut.calls kj2 x0_2 (⟨#[35]⟩ : ByteArray) t407 _ A10.out).mono ?_); rintro e w' ⟨rfl, ⟨nd, rfl⟩⟩; refine ⟨_, rfl, ?_⟩))
            go_ret
            exact ⟨by first | rfl | (simp; done) | (simp only [← hji11] <;> (first | rfl | simp)) | (simp [*]; done), by repeat (first | exact Drawn0.refl _ | apply Drawn0.step)⟩
          · rw [if_neg c13] at H
            exact absurd H (by simp)
        · rw [if_neg c12] at H
          exact absurd H (by simp)
      · rw [if_neg c9] at H
        have c9b0 : decide (0 ≤ t406) = false := decide_eq_false c9
        clear c9
        obtain rfl := Option.some.inj H
        go_wp2_with (first | ((with_reducible refine gate_callee (f := 95) rfl ?_); refine goesL_ (some 11) rfl rfl Tryz.func95 (by kernel_rfl) rfl #[.string x0_2, .string (⟨#[35]⟩ : ByteArray)] rfl (by (try simp only [List.map_toArray, List.map_cons, List.map_nil]); first | done | rfl | (simp only [List.length_drop, List.length_take]; rfl)) ?_; (with_reducible refine (awsrestjson_cut.calls kj2 x0_2 (⟨#[35]⟩ : ByteArray) t406 _ A8.out).mono ?_); rintro e w' ⟨rfl, ⟨nd, rfl⟩⟩; refine ⟨_, rfl, ?_⟩))
        go_ret
        exact ⟨by first | rfl | (simp; done) | (simp [*]; done), by repeat (first | exact Drawn0.refl _ | apply Drawn0.step)⟩

end Go.Proofs.YtclmjmfcggkpaaaGreatDoor.PX
