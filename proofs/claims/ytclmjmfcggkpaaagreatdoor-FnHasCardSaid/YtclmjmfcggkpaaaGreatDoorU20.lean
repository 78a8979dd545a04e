import Derived.Test.YtclmjmfcggkpaaaGreatDoorU4
namespace Go.Proofs.YtclmjmfcggkpaaaGreatDoor.PX
open Go.RowKit Go.Proofs.YtclmjmfcggkpaaaGreatDoorW.PrintWords Go.Proofs.YtclmjmfcggkpaaaGreatDoorW.PrintLast Go.Proofs.YtclmjmfcggkpaaaGreatDoorW.PrintMore
attribute [local go_sem] max2_int min2_int max_two min_two max_three min_three max_four min_four   -- for this text's walks alone
set_option linter.unusedVariables false
set_option linter.unusedSimpArgs false

/-! ### spec_cut: function 53 -/
def spec_cut.l0 : Nat → ByteArray → Int → Int → Int → Option (ByteArray × ByteArray × Bool)
 | 0, _, _, _, _ => none
 | k + 1, x0, x1, x9, x10 => if x10 < x9 then (if 0 ≤ x10 then (if x10 < (x0.size : Int) then (if (bt x0 x10) = x1 then (if x10 ≤ (x0.size : Int) then (if 0 ≤ (wrap64 (x10 + 1)) then (if (wrap64 (x10 + 1)) ≤ (x0.size : Int) then (some (x0.extract 0 (x10 : Int).toNat, x0.extract ((wrap64 (x10 + 1)) : Int).toNat x0.size, true)) else (none)) else (none)) else (none)) else (spec_cut.l0 k x0 x1 x9 (wrap64 (x10 + 1)))) else (none)) else (none)) else (some (x0, (⟨#[]⟩ : ByteArray), false))
def spec_cut.f (k : Nat) (a0 : ByteArray) (a1 : Int) : Option (ByteArray × ByteArray × Bool) := spec_cut.l0 k a0 a1 (a0.size : Int) 0
theorem spec_cut.mono_l : ∀ k, (∀ y0 y1 y2 y3, LeO (spec_cut.l0 k y0 y1 y2 y3) (spec_cut.l0 (k + 1) y0 y1 y2 y3))
 | 0 => fun _ _ _ _ r h => by simp [spec_cut.l0] at h
 | k + 1 => by
   have ih0 := spec_cut.mono_l k
   ·intro y0 y1 y2 y3
    unfold spec_cut.l0
    repeat' first
    | (with_reducible exact ih0 _ _ _ _)
    | (with_reducible exact LeO.refl _)
    | (with_reducible exact LeO.none _)
    | (with_reducible refine LeO.ite ?_ ?_)
    | (with_reducible refine LeO.bind ?_ (fun _ => ?_))
    | exact ih0 _ _ _ _
    | exact LeO.none _
    | refine LeO.ite ?_ ?_
    | refine LeO.bind ?_ (fun _ => ?_)
theorem spec_cut.mono : ∀ a0 a1 k, LeO (spec_cut.f k a0 a1) (spec_cut.f (k + 1) a0 a1) := by
 intro a0 a1 k
 have ih0 := spec_cut.mono_l k
 unfold spec_cut.f
 repeat' first
  | (with_reducible exact ih0 _ _ _ _)
  | (with_reducible exact LeO.refl _)
  | (with_reducible exact LeO.none _)
  | (with_reducible refine LeO.ite ?_ ?_)
  | (with_reducible refine LeO.bind ?_ (fun _ => ?_))
  | exact ih0 _ _ _ _
  | exact LeO.none _
  | refine LeO.ite ?_ ?_
  | refine LeO.bind ?_ (fun _ => ?_)
set_option maxHeartbeats 8000000 in
set_option maxRecDepth 100000 in
theorem spec_cut.calls (k : Nat) (a0 : ByteArray) (a1 : Int) (r1 : ByteArray) (r2 : ByteArray) (r3 : Bool) (w : World) (h : spec_cut.f k a0 a1 = some (r1, r2, r3)) :
 Calls Tryz.prog 53 #[.string a0, .int .u8 a1] w fun e w' => e = .returned (.tuple #[.string r1, .string r2, .bool r3]) ∧ Drawn0 w w' := by
 have H : (spec_cut.l0 k a0 a1 (a0.size : Int) 0) = some (r1, r2, r3) := h
 clear h
 have H' := Aside0.mk H
 clear H
 go_enter Tryz.func53, Tryz.ntmps53
 go_wp2
 repeat (go_quiet (fail); try go_wp2)
 go_loopg [10] k (fun kq v10 w' => ∃ (x10_1 : Int), v10 = .int .i64 x10_1 ∧ Aside0 (spec_cut.l0 kq a0 a1 (a0.size : Int) x10_1 = some (r1, r2, r3)) ∧ Aside0 (kq ≤ k) ∧ Drawn0 w w')
 case atStart => exact ⟨(0), (by first | rfl | (simp; done) | (simp [*]; done)), H', ⟨Nat.le_refl _⟩, by repeat (first | exact Drawn0.refl _ | apply Drawn0.step)⟩
 case round =>
  clear H'
  try clear p2
  obtain ⟨x10_1, rfl, HA, HK1, ⟨m1, rfl⟩⟩ := hrel
  cases gk with
  | zero => exact absurd HA.out (by simp [spec_cut.l0])
  | succ k1 =>
    have H := HA.out
    clear HA
    simp only [spec_cut.l0] at H
    by_cases c3 : x10_1 < (a0.size : Int)
    ·rw [if_pos c3] at H
     have c3b0 : decide (x10_1 < (a0.size : Int)) = true := decide_eq_true c3
     clear c3
     by_cases c4 : 0 ≤ x10_1
     ·rw [if_pos c4] at H
      have c4b0 : decide (0 ≤ x10_1) = true := decide_eq_true c4
      clear c4
      by_cases c5 : x10_1 < (a0.size : Int)
      ·rw [if_pos c5] at H
       have c5b0 : decide (x10_1 < (a0.size : Int)) = true := decide_eq_true c5
       clear c5
       by_cases c7 : (bt a0 x10_1) = a1
       ·rw [if_pos c7] at H
        have c7b0 : ((bt a0 x10_1) == a1) = true := beq_iff_eq.mpr c7
        have c7b1 : ((bt a0 x10_1) != a1) = false := bne_eq_false_iff_eq.mpr c7
        clear c7
        have c8b0 := eq_true (of_decide_eq_true (by first | (with_reducible assumption) | assumption) : 0 ≤ x10_1)
        by_cases c9 : x10_1 ≤ (a0.size : Int)
        ·rw [if_pos c9] at H
         have c9b0 := eq_true c9
         have c9b1 : decide (x10_1 ≤ (a0.size : Int)) = true := decide_eq_true c9
         clear c9
         obtain ⟨ji10, hji10⟩ : ∃ j_ : Int, (wrap64 (x10_1 + 1)) = j_ := ⟨_, rfl⟩
         replace H : (if 0 ≤ (ji10) then (if (ji10) ≤ (a0.size : Int) then (some (a0.extract 0 (x10_1 : Int).toNat, a0.extract ((ji10) : Int).toNat a0.size, true)) else (none)) else (none)) = some (r1, r2, r3) := by (rw [hji10] at H; exact H)
         have hji10w : (IntKind.i64.wrap (x10_1 + 1)) = ji10 := (i64_w _).trans hji10
         by_cases c11 : 0 ≤ (ji10)
         ·rw [if_pos c11] at H
          have c11b0 := eq_true c11
          have c11b1 : decide (0 ≤ (ji10)) = true := decide_eq_true c11
          clear c11
          by_cases c12 : (ji10) ≤ (a0.size : Int)
          ·rw [if_pos c12] at H
           have c12b0 := eq_true c12
           have c12b1 : decide ((ji10) ≤ (a0.size : Int)) = true := decide_eq_true c12
           clear c12
           simp only [Option.some.injEq, Prod.mk.injEq] at H
           obtain ⟨rfl, rfl, rfl⟩ := H
           have p6 : 0 ≤ (x10_1 : Int) := of_decide_eq_true (by first | (with_reducible assumption) | assumption)
           have q6 : x10_1 < (a0.size : Int) := of_decide_eq_true (by first | (with_reducible assumption) | assumption)
           have hx6 := bt_at a0 x10_1
           replace p6 := eq_true p6
           replace q6 := eq_true q6
           go_wp2
           repeat (go_quiet (fail); try go_wp2)
           go_ret3
           exact ⟨by rfl, by repeat (first | exact Drawn0.refl _ | apply Drawn0.step)⟩
          ·rw [if_neg c12] at H
           exact absurd H (by simp)
         ·rw [if_neg c11] at H
          exact absurd H (by simp)
        ·rw [if_neg c9] at H
         exact absurd H (by simp)
       ·rw [if_neg c7] at H
        have c7b0 : ((bt a0 x10_1) == a1) = false := beq_eq_false_iff_ne.mpr c7
        have c7b1 : ((bt a0 x10_1) != a1) = true := bne_iff_ne.mpr c7
        have H' := Aside0.mk H
        clear H
        have p6 : 0 ≤ (x10_1 : Int) := of_decide_eq_true (by first | (with_reducible assumption) | assumption)
        have q6 : x10_1 < (a0.size : Int) := of_decide_eq_true (by first | (with_reducible assumption) | assumption)
        have hx6 := bt_at a0 x10_1
        replace p6 := eq_true p6
        replace q6 := eq_true q6
        go_wp2
        repeat (go_quiet (fail); try go_wp2)
        go_roundg k1
        case measure => have := HK1.out; omega
        case rel => exact ⟨(wrap64 (x10_1 + 1)), (by first | rfl | (simp; done) | (simp [*]; done)), H', ⟨by have := HK1.out; omega⟩, by repeat (first | exact Drawn0.refl _ | apply Drawn0.step)⟩
      ·rw [if_neg c5] at H
       exact absurd H (by simp)
     ·rw [if_neg c4] at H
      exact absurd H (by simp)
    ·rw [if_neg c3] at H
     have c3b0 : decide (x10_1 < (a0.size : Int)) = false := decide_eq_false c3
     clear c3
     simp only [Option.some.injEq, Prod.mk.injEq] at H
     obtain ⟨rfl, rfl, rfl⟩ := H
     go_wp2
     repeat (go_quiet (fail); try go_wp2)
     go_ret3
     exact ⟨by first | rfl | (simp; done) | (simp [*]; done), by repeat (first | exact Drawn0.refl _ | apply Drawn0.step)⟩

end Go.Proofs.YtclmjmfcggkpaaaGreatDoor.PX
namespace Go.Proofs.YtclmjmfcggkpaaaGreatDoor.PX
open Go.RowKit Go.Proofs.YtclmjmfcggkpaaaGreatDoorW.PrintWords Go.Proofs.YtclmjmfcggkpaaaGreatDoorW.PrintLast Go.Proofs.YtclmjmfcggkpaaaGreatDoorW.PrintMore
attribute [local go_sem] max2_int min2_int max_two min_two max_three min_three max_four min_four   -- for this text's walks alone
set_option linter.unusedVariables false
set_option linter.unusedSimpArgs false

/-! ### spec_split: function 50 -/
def spec_split.l0 : Nat → ByteArray → Int → List ByteArray → Option (List ByteArray)
 | 0, _, _, _ => none
 | k + 1, x0, x1, x5 => (spec_cut.f k x0 x1).bind fun bt104 => (if x5.length < 8796093022208 then ((some (x5 ++ [bt104.1] : List ByteArray)).bind fun y107 => (if bt104.2.2 = true then (spec_split.l0 k bt104.2.1 x1 y107) else (some y107))) else (none))
def spec_split.f (k : Nat) (a0 : ByteArray) (a1 : Int) : Option (List ByteArray) := spec_split.l0 k a0 a1 (([] : List ByteArray))
theorem spec_split.mono_l : ∀ k, (∀ y0 y1 y2, LeO (spec_split.l0 k y0 y1 y2) (spec_split.l0 (k + 1) y0 y1 y2))
 | 0 => fun _ _ _ r h => by simp [spec_split.l0] at h
 | k + 1 => by
   have ih0 := spec_split.mono_l k
   ·intro y0 y1 y2
    unfold spec_split.l0
    repeat' first
    | (with_reducible exact ih0 _ _ _)
    | (with_reducible exact spec_cut.mono _ _ _)
    | (with_reducible exact LeO.refl _)
    | (with_reducible exact LeO.none _)
    | (with_reducible refine LeO.ite ?_ ?_)
    | (with_reducible refine LeO.bind ?_ (fun _ => ?_))
    | exact ih0 _ _ _
    | exact spec_cut.mono _ _ _
    | exact LeO.none _
    | refine LeO.ite ?_ ?_
    | refine LeO.bind ?_ (fun _ => ?_)
theorem spec_split.mono : ∀ a0 a1 k, LeO (spec_split.f k a0 a1) (spec_split.f (k + 1) a0 a1) := by
 intro a0 a1 k
 have ih0 := spec_split.mono_l k
 unfold spec_split.f
 repeat' first
  | (with_reducible exact ih0 _ _ _)
  | (with_reducible exact spec_cut.mono _ _ _)
  | (with_reducible exact LeO.refl _)
  | (with_reducible exact LeO.none _)
  | (with_reducible refine LeO.ite ?_ ?_)
  | (with_reducible refine LeO.bind ?_ (fun _ => ?_))
  | exact ih0 _ _ _
  | exact spec_cut.mono _ _ _
  | exact LeO.none _
  | refine LeO.ite ?_ ?_
  | refine LeO.bind ?_ (fun _ => ?_)
set_option maxHeartbeats 8000000 in
set_option maxRecDepth 100000 in
theorem spec_split.calls (k : Nat) (a0 : ByteArray) (a1 : Int) (r : List ByteArray) (w : World) (h : spec_split.f k a0 a1 = some r) :
 Calls Tryz.prog 50 #[.string a0, .int .u8 a1] w fun e w' => ∃ v0_ : Value, e = .returned (v0_) ∧ Kd.R Kd.string 9 w' w.heap.size (fun _ => True) v0_ r ∧ Below w.heap.size w w' := by
 have HB := Aside0.mk (Below.refl w.heap.size w)
 have H : (spec_split.l0 k a0 a1 (([] : List ByteArray))) = some r := h
 clear h
 obtain ⟨y101, hy101⟩ : ∃ y_ : List ByteArray, y_ = (([] : List ByteArray)) := ⟨_, rfl⟩
 replace H : (spec_split.l0 k a0 a1 y101) = some r := by (rw [hy101]; with_reducible exact H)
 have Ny101 := Aside0.mk hy101
 clear hy101
 have H' := Aside0.mk H
 clear H
 go_enter Tryz.func50, Tryz.ntmps50
 go_wp2_with (first | ((with_reducible refine gate_dst (N := 9) rfl ?_); refine Kd.R_lit Kd.string _ 9 ?hg (N := 9) ?hd (xs := ([] : List ByteArray)) (inner := []) (ok := fun _ => True) (okp := fun _ => True) ?hr ?hp (fun _ hk => hk) trivial (Below.refl _ _) (Nat.le_refl _) (by simp) ?_; (case hd => rfl); (case hg => rfl); (case hr => first | (go_simp; done) | (go_simp; rfl)); (case hp => exact (Reps.none _ _)); intro v102 w3 ho4 hb hg_ hnew_; clear hg_ hnew_; (rw [← Ny101.out] at ho4); have n0_ := Aside0.mk (Kd.R_lower ho4 (below_size (by repeat ((with_reducible exact HB.out))))); have n1_ := Aside0.mk (below_step (by repeat ((with_reducible exact HB.out))) hb); clear HB; have HO103 := n0_; have HB := n1_; clear n0_ n1_; clear hb ho4))
 go_loopg [0, 5] k (fun kq v0 v5 w' => ∃ (x0_1 : ByteArray) (x5_1 : List ByteArray), v0 = .string x0_1 ∧ Aside0 (spec_split.l0 kq x0_1 a1 x5_1 = some r) ∧ Aside0 (kq ≤ k) ∧ Aside0 (Kd.R Kd.string 9 w' w.heap.size (fun _ => True) v5 x5_1) ∧ Aside0 (Below w.heap.size w w'))
 case atStart => exact ⟨(a0), (y101), (by first | rfl | (simp; done) | (simp [*]; done)), H', ⟨Nat.le_refl _⟩, ⟨by (with_reducible repeat (first | apply Kd.R_alloc | apply Kd.R_drewN | apply Kd.R_drew)); exact HO103.out⟩, ⟨by repeat ((with_reducible exact HB.out))⟩⟩
 case round =>
  clear H'
  try clear p2
  obtain ⟨x0_1, x5_1, rfl, HA, HK1, HO_5, HB⟩ := hrel
  cases gk with
  | zero => exact absurd HA.out (by simp [spec_split.l0])
  | succ k1 =>
    have H := HA.out
    clear HA
    simp only [spec_split.l0] at H
    replace H := Option.bind_eq_some_iff.mp H
    obtain ⟨⟨t104, t105, t106⟩, A50, H⟩ := H
    replace H : (if x5_1.length < 8796093022208 then ((some (x5_1 ++ [t104] : List ByteArray)).bind fun y107 => (if t106 = true then (spec_split.l0 k1 t105 a1 y107) else (some y107))) else (none)) = some r := H
    have A5 := Aside0.mk A50
    clear A50
    by_cases c6 : x5_1.length < 8796093022208
    ·rw [if_pos c6] at H
     have LMc6 := Aside0.mk c6
     clear c6
     obtain ⟨y107, hy107⟩ : ∃ y_ : List ByteArray, y_ = (x5_1 ++ [t104]) := ⟨_, rfl⟩
     replace H : (if t106 = true then (spec_split.l0 k1 t105 a1 y107) else (some y107)) = some r := by (have H2_ := (Option.bind_some _ _).symm.trans H; rw [hy107]; with_reducible exact H2_)
     have Ny107 := Aside0.mk hy107
     clear hy107
     by_cases c7 : t106 = true
     ·subst c7
      have H1 : (spec_split.l0 k1 t105 a1 y107) = some r := by rw [if_pos rfl] at H; exact H
      clear H
      have H := H1
      clear H1
      have H' := Aside0.mk H
      clear H
      go_wp2_with (first | ((with_reducible refine gate_callee (f := 53) rfl ?_); refine goesL_ (some 13) rfl rfl Tryz.func53 (by kernel_rfl) rfl #[.string x0_1, .int .u8 a1] rfl (by (try simp only [List.map_toArray, List.map_cons, List.map_nil]); rfl) ?_; (with_reducible refine (spec_cut.calls k1 x0_1 a1 t104 t105 true _ A5.out).mono ?_); rintro e w' ⟨rfl, ⟨nd, rfl⟩⟩; refine ⟨_, rfl, ?_⟩) | ((with_reducible refine gate_builtin (b := .append) (xs := #[.tmp 17, .tmp 19]) rfl ?_); at_builtin; refine Kd.R_append Kd.string (w0 := w) w.heap.size rfl (.tmp 17) (.tmp 19) 67 9 (.string ⟨#[]⟩) 16 rfl Tryz.underlying67 info9 rfl (by decide) (by omega) u5 x5_1 t104 [.string t104] (fun _ => True) (fun _ => False) rfl rfl ?aP (fun _ hk => hk.elim) ?aF ?aO ?aB ?aS ?aL ?_; (case aP => exact rfl); (case aB => exact (by repeat ((with_reducible first | exact HB.out | apply pw_below_drewN )))); (case aF => exact (fun _ _ => trivial)); (case aO => exact (by (with_reducible repeat (first | apply Kd.R_alloc | apply Kd.R_drewN | apply Kd.R_drew)); exact HO_5.out)); (case aS => exact (below_size (by repeat ((with_reducible first | exact HB.out | apply pw_below_drewN ))))); (case aL => have := LMc6.out; omega); intro v108 w8 ho hb hg hat; rw [← Ny107.out] at ho; have n0_ := Aside0.mk (hb); have n1_ := Aside0.mk (ho); clear HB; clear HO_5; have HB := n0_; have HO109 := n1_; clear n0_ n1_; clear ho hb hg hat))
      go_roundg k1
      case measure => have := HK1.out; omega
      case rel => exact ⟨(t105), (y107), (by first | rfl | (simp; done) | (simp [*]; done)), H', ⟨by have := HK1.out; omega⟩, ⟨by (with_reducible repeat (first | apply Kd.R_alloc | apply Kd.R_drewN | apply Kd.R_drew)); exact HO109.out⟩, ⟨by repeat ((with_reducible exact HB.out))⟩⟩
     ·replace c7 := Bool.eq_false_iff.mpr c7
      subst c7
      have H1 : (some y107) = some r := by rw [if_neg (show ¬ (false = true) by decide)] at H; exact H
      clear H
      have H := H1
      clear H1
      obtain rfl := Option.some.inj H
      go_wp2_with (first | ((with_reducible refine gate_callee (f := 53) rfl ?_); refine goesL_ (some 13) rfl rfl Tryz.func53 (by kernel_rfl) rfl #[.string x0_1, .int .u8 a1] rfl (by (try simp only [List.map_toArray, List.map_cons, List.map_nil]); rfl) ?_; (with_reducible refine (spec_cut.calls k1 x0_1 a1 t104 t105 false _ A5.out).mono ?_); rintro e w' ⟨rfl, ⟨nd, rfl⟩⟩; refine ⟨_, rfl, ?_⟩) | ((with_reducible refine gate_builtin (b := .append) (xs := #[.tmp 17, .tmp 19]) rfl ?_); at_builtin; refine Kd.R_append Kd.string (w0 := w) w.heap.size rfl (.tmp 17) (.tmp 19) 67 9 (.string ⟨#[]⟩) 16 rfl Tryz.underlying67 info9 rfl (by decide) (by omega) u5 x5_1 t104 [.string t104] (fun _ => True) (fun _ => False) rfl rfl ?aP (fun _ hk => hk.elim) ?aF ?aO ?aB ?aS ?aL ?_; (case aP => exact rfl); (case aB => exact (by repeat ((with_reducible first | exact HB.out | apply pw_below_drewN )))); (case aF => exact (fun _ _ => trivial)); (case aO => exact (by (with_reducible repeat (first | apply Kd.R_alloc | apply Kd.R_drewN | apply Kd.R_drew)); exact HO_5.out)); (case aS => exact (below_size (by repeat ((with_reducible first | exact HB.out | apply pw_below_drewN ))))); (case aL => have := LMc6.out; omega); intro v108 w9 ho hb hg hat; rw [← Ny107.out] at ho; have n0_ := Aside0.mk (hb); have n1_ := Aside0.mk (ho); clear HB; clear HO_5; have HB := n0_; have HO109 := n1_; clear n0_ n1_; clear ho hb hg hat))
      go_ret
      exact ⟨_, by rfl, by (with_reducible repeat (first | apply Kd.R_alloc | apply Kd.R_drewN | apply Kd.R_drew)); exact HO109.out, by repeat ((with_reducible exact HB.out))⟩
    ·rw [if_neg c6] at H
     exact absurd H (by simp)

end Go.Proofs.YtclmjmfcggkpaaaGreatDoor.PX
namespace Go.Proofs.YtclmjmfcggkpaaaGreatDoor.PX
open Go.RowKit Go.Proofs.YtclmjmfcggkpaaaGreatDoorW.PrintWords Go.Proofs.YtclmjmfcggkpaaaGreatDoorW.PrintLast Go.Proofs.YtclmjmfcggkpaaaGreatDoorW.PrintMore
attribute [local go_sem] max2_int min2_int max_two min_two max_three min_three max_four min_four   -- for this text's walks alone
set_option linter.unusedVariables false
set_option linter.unusedSimpArgs false

/-! ### spec_isWord: function 61 -/
def spec_isWord.l0 : Nat → ByteArray → Int → Int → Option (Bool)
 | 0, _, _, _ => none
 | k + 1, x0, x7, x8 => if x8 < x7 then (if 0 ≤ x8 then (if x8 < (x0.size : Int) then (if (bt x0 x8) ≥ 97 then (if (bt x0 x8) ≤ 122 then (spec_isWord.l0 k x0 x7 (wrap64 (x8 + 1))) else (if (bt x0 x8) ≥ 65 then (if ((bt x0 x8) ≤ 90) then (spec_isWord.l0 k x0 x7 (wrap64 (x8 + 1))) else (if x8 = 0 then (some false) else (if (bt x0 x8) < 48 then (some false) else (if (bt x0 x8) > 57 then (some false) else (spec_isWord.l0 k x0 x7 (wrap64 (x8 + 1))))))) else (if x8 = 0 then (some false) else (if (bt x0 x8) < 48 then (some false) else (if (bt x0 x8) > 57 then (some false) else (spec_isWord.l0 k x0 x7 (wrap64 (x8 + 1)))))))) else (if (bt x0 x8) ≥ 65 then (if ((bt x0 x8) ≤ 90) then (spec_isWord.l0 k x0 x7 (wrap64 (x8 + 1))) else (if x8 = 0 then (some false) else (if (bt x0 x8) < 48 then (some false) else (if (bt x0 x8) > 57 then (some false) else (spec_isWord.l0 k x0 x7 (wrap64 (x8 + 1))))))) else (if x8 = 0 then (some false) else (if (bt x0 x8) < 48 then (some false) else (if (bt x0 x8) > 57 then (some false) else (spec_isWord.l0 k x0 x7 (wrap64 (x8 + 1)))))))) else (none)) else (none)) else (if x0.toList = ([] : List UInt8) then (some false) else (some (decide ((x0.size : Int) ≤ 50))))
def spec_isWord.f (k : Nat) (a0 : ByteArray) : Option (Bool) := spec_isWord.l0 k a0 (a0.size : Int) 0
theorem spec_isWord.mono_l : ∀ k, (∀ y0 y1 y2, LeO (spec_isWord.l0 k y0 y1 y2) (spec_isWord.l0 (k + 1) y0 y1 y2))
 | 0 => fun _ _ _ r h => by simp [spec_isWord.l0] at h
 | k + 1 => by
   have ih0 := spec_isWord.mono_l k
   ·intro y0 y1 y2
    unfold spec_isWord.l0
    repeat' first
    | (with_reducible exact ih0 _ _ _)
    | (with_reducible exact LeO.refl _)
    | (with_reducible exact LeO.none _)
    | (with_reducible refine LeO.ite ?_ ?_)
    | (with_reducible refine LeO.bind ?_ (fun _ => ?_))
    | exact ih0 _ _ _
    | exact LeO.none _
    | refine LeO.ite ?_ ?_
    | refine LeO.bind ?_ (fun _ => ?_)
theorem spec_isWord.mono : ∀ a0 k, LeO (spec_isWord.f k a0) (spec_isWord.f (k + 1) a0) := by
 intro a0 k
 have ih0 := spec_isWord.mono_l k
 unfold spec_isWord.f
 repeat' first
  | (with_reducible exact ih0 _ _ _)
  | (with_reducible exact LeO.refl _)
  | (with_reducible exact LeO.none _)
  | (with_reducible refine LeO.ite ?_ ?_)
  | (with_reducible refine LeO.bind ?_ (fun _ => ?_))
  | exact ih0 _ _ _
  | exact LeO.none _
  | refine LeO.ite ?_ ?_
  | refine LeO.bind ?_ (fun _ => ?_)
set_option maxHeartbeats 8000000 in
set_option maxRecDepth 100000 in
theorem spec_isWord.calls (k : Nat) (a0 : ByteArray) (r : Bool) (w : World) (h : spec_isWord.f k a0 = some r) :
 Calls Tryz.prog 61 #[.string a0] w fun e w' => e = .returned (.bool r) ∧ Drawn0 w w' := by
 have H : (spec_isWord.l0 k a0 (a0.size : Int) 0) = some r := h
 clear h
 have H' := Aside0.mk H
 clear H
 go_enter Tryz.func61, Tryz.ntmps61
 go_wp2
 go_loopg [8] k (fun kq v8 w' => ∃ (x8_1 : Int), v8 = .int .i64 x8_1 ∧ Aside0 (spec_isWord.l0 kq a0 (a0.size : Int) x8_1 = some r) ∧ Aside0 (kq ≤ k) ∧ Drawn0 w w')
 case atStart => exact ⟨(0), (by first | rfl | (simp; done) | (simp [*]; done)), H', ⟨Nat.le_refl _⟩, by repeat (first | exact Drawn0.refl _ | apply Drawn0.step)⟩
 case round =>
  clear H'
  obtain ⟨x8_1, rfl, HA, HK1, ⟨m1, rfl⟩⟩ := hrel
  cases gk with
  | zero => exact absurd HA.out (by simp [spec_isWord.l0])
  | succ k1 =>
    have H := HA.out
    clear HA
    simp only [spec_isWord.l0] at H
    by_cases c2 : x8_1 < (a0.size : Int)
    ·rw [if_pos c2] at H
     have c2b0 : decide (x8_1 < (a0.size : Int)) = true := decide_eq_true c2
     clear c2
     by_cases c3 : 0 ≤ x8_1
     ·rw [if_pos c3] at H
      have c3b0 : decide (0 ≤ x8_1) = true := decide_eq_true c3
      clear c3
      by_cases c4 : x8_1 < (a0.size : Int)
      ·rw [if_pos c4] at H
       have c4b0 : decide (x8_1 < (a0.size : Int)) = true := decide_eq_true c4
       clear c4
       by_cases c6 : (bt a0 x8_1) ≥ 97
       ·rw [if_pos c6] at H
        have c6b0 : decide (97 ≤ (bt a0 x8_1)) = true := decide_eq_true c6
        clear c6
        by_cases c7 : (bt a0 x8_1) ≤ 122
        ·rw [if_pos c7] at H
         have c7b0 : decide ((bt a0 x8_1) ≤ 122) = true := decide_eq_true c7
         clear c7
         have H' := Aside0.mk H
         clear H
         have p5 : 0 ≤ (x8_1 : Int) := of_decide_eq_true (by first | (with_reducible assumption) | assumption)
         have q5 : x8_1 < (a0.size : Int) := of_decide_eq_true (by first | (with_reducible assumption) | assumption)
         have hx5 := bt_at a0 x8_1
         replace p5 := eq_true p5
         replace q5 := eq_true q5
         go_wp2
         go_roundg k1
         case measure => have := HK1.out; omega
         case rel => exact ⟨(wrap64 (x8_1 + 1)), (by first | rfl | (simp; done) | (simp [*]; done)), H', ⟨by have := HK1.out; omega⟩, by repeat (first | exact Drawn0.refl _ | apply Drawn0.step)⟩
        ·rw [if_neg c7] at H
         have c7b0 : decide ((bt a0 x8_1) ≤ 122) = false := decide_eq_false c7
         clear c7
         by_cases c8 : (bt a0 x8_1) ≥ 65
         ·rw [if_pos c8] at H
          have c8b0 : decide (65 ≤ (bt a0 x8_1)) = true := decide_eq_true c8
          clear c8
          by_cases c9 : ((bt a0 x8_1) ≤ 90)
          ·rw [if_pos c9] at H
           have c9b0 : decide ((bt a0 x8_1) ≤ 90) = true := decide_eq_true c9
           clear c9
           have H' := Aside0.mk H
           clear H
           have p5 : 0 ≤ (x8_1 : Int) := of_decide_eq_true (by first | (with_reducible assumption) | assumption)
           have q5 : x8_1 < (a0.size : Int) := of_decide_eq_true (by first | (with_reducible assumption) | assumption)
           have hx5 := bt_at a0 x8_1
           replace p5 := eq_true p5
           replace q5 := eq_true q5
           go_wp2
           go_roundg k1
           case measure => have := HK1.out; omega
           case rel => exact ⟨(wrap64 (x8_1 + 1)), (by first | rfl | (simp; done) | (simp [*]; done)), H', ⟨by have := HK1.out; omega⟩, by repeat (first | exact Drawn0.refl _ | apply Drawn0.step)⟩
          ·rw [if_neg c9] at H
           have c9b0 : decide ((bt a0 x8_1) ≤ 90) = false := decide_eq_false c9
           clear c9
           by_cases c10 : x8_1 = 0
           ·rw [if_pos c10] at H
            have c10b0 : (x8_1 == 0) = true := beq_iff_eq.mpr c10
            have c10b1 : (x8_1 != 0) = false := bne_eq_false_iff_eq.mpr c10
            clear c10
            obtain rfl := Option.some.inj H
            have p5 : 0 ≤ (x8_1 : Int) := of_decide_eq_true (by first | (with_reducible assumption) | assumption)
            have q5 : x8_1 < (a0.size : Int) := of_decide_eq_true (by first | (with_reducible assumption) | assumption)
            have hx5 := bt_at a0 x8_1
            replace p5 := eq_true p5
            replace q5 := eq_true q5
            go_wp2
            go_ret
            exact ⟨by first | rfl | (simp; done) | (simp [*]; done), by repeat (first | exact Drawn0.refl _ | apply Drawn0.step)⟩
           ·rw [if_neg c10] at H
            have c10b0 : (x8_1 == 0) = false := beq_eq_false_iff_ne.mpr c10
            have c10b1 : (x8_1 != 0) = true := bne_iff_ne.mpr c10
            by_cases c11 : (bt a0 x8_1) < 48
            ·rw [if_pos c11] at H
             have c11b0 : decide ((bt a0 x8_1) < 48) = true := decide_eq_true c11
             clear c11
             obtain rfl := Option.some.inj H
             have p5 : 0 ≤ (x8_1 : Int) := of_decide_eq_true (by first | (with_reducible assumption) | assumption)
             have q5 : x8_1 < (a0.size : Int) := of_decide_eq_true (by first | (with_reducible assumption) | assumption)
             have hx5 := bt_at a0 x8_1
             replace p5 := eq_true p5
             replace q5 := eq_true q5
             go_wp2
             go_ret
             exact ⟨by first | rfl | (simp; done) | (simp [*]; done), by repeat (first | exact Drawn0.refl _ | apply Drawn0.step)⟩
            ·rw [if_neg c11] at H
             have c11b0 : decide ((bt a0 x8_1) < 48) = false := decide_eq_false c11
             clear c11
             by_cases c12 : (bt a0 x8_1) > 57
             ·rw [if_pos c12] at H
              have c12b0 : decide (57 < (bt a0 x8_1)) = true := decide_eq_true c12
              clear c12
              obtain rfl := Option.some.inj H
              have p5 : 0 ≤ (x8_1 : Int) := of_decide_eq_true (by first | (with_reducible assumption) | assumption)
              have q5 : x8_1 < (a0.size : Int) := of_decide_eq_true (by first | (with_reducible assumption) | assumption)
              have hx5 := bt_at a0 x8_1
              replace p5 := eq_true p5
              replace q5 := eq_true q5
              go_wp2
              go_ret
              exact ⟨by first | rfl | (simp; done) | (simp [*]; done), by repeat (first | exact Drawn0.refl _ | apply Drawn0.step)⟩
             ·rw [if_neg c12] at H
              have c12b0 : decide (57 < (bt a0 x8_1)) = false := decide_eq_false c12
              clear c12
              have H' := Aside0.mk H
              clear H
              have p5 : 0 ≤ (x8_1 : Int) := of_decide_eq_true (by first | (with_reducible assumption) | assumption)
              have q5 : x8_1 < (a0.size : Int) := of_decide_eq_true (by first | (with_reducible assumption) | assumption)
              have hx5 := bt_at a0 x8_1
              replace p5 := eq_true p5
              replace q5 := eq_true q5
              go_wp2
              go_roundg k1
              case measure => have := HK1.out; omega
              case rel => exact ⟨(wrap64 (x8_1 + 1)), (by first | rfl | (simp; done) | (simp [*]; done)), H', ⟨by have := HK1.out; omega⟩, by repeat (first | exact Drawn0.refl _ | apply Drawn0.step)⟩
         ·rw [if_neg c8] at H
          have c8b0 : decide (65 ≤ (bt a0 x8_1)) = false := decide_eq_false c8
          clear c8
          by_cases c13 : x8_1 = 0
          ·rw [if_pos c13] at H
           have c13b0 : (x8_1 == 0) = true := beq_iff_eq.mpr c13
           have c13b1 : (x8_1 != 0) = false := bne_eq_false_iff_eq.mpr c13
           clear c13
           obtain rfl := Option.some.inj H
           have p5 : 0 ≤ (x8_1 : Int) := of_decide_eq_true (by first | (with_reducible assumption) | assumption)
           have q5 : x8_1 < (a0.size : Int) := of_decide_eq_true (by first | (with_reducible assumption) | assumption)
           have hx5 := bt_at a0 x8_1
           replace p5 := eq_true p5
           replace q5 := eq_true q5
           go_wp2
           go_ret
           exact ⟨by first | rfl | (simp; done) | (simp [*]; done), by repeat (first | exact Drawn0.refl _ | apply Drawn0.step)⟩
          ·rw [if_neg c13] at H
           have c13b0 : (x8_1 == 0) = false := beq_eq_false_iff_ne.mpr c13
           have c13b1 : (x8_1 != 0) = true := bne_iff_ne.mpr c13
           by_cases c14 : (bt a0 x8_1) < 48
           ·rw [if_pos c14] at H
            have c14b0 : decide ((bt a0 x8_1) < 48) = true := decide_eq_true c14
            clear c14
            obtain rfl := Option.some.inj H
            have p5 : 0 ≤ (x8_1 : Int) := of_decide_eq_true (by first | (with_reducible assumption) | assumption)
            have q5 : x8_1 < (a0.size : Int) := of_decide_eq_true (by first | (with_reducible assumption) | assumption)
            have hx5 := bt_at a0 x8_1
            replace p5 := eq_true p5
            replace q5 := eq_true q5
            go_wp2
            go_ret
            exact ⟨by first | rfl | (simp; done) | (simp [*]; done), by repeat (first | exact Drawn0.refl _ | apply Drawn0.step)⟩
           ·rw [if_neg c14] at H
            have c14b0 : decide ((bt a0 x8_1) < 48) = false := decide_eq_false c14
            clear c14
            by_cases c15 : (bt a0 x8_1) > 57
            ·rw [if_pos c15] at H
             have c15b0 : decide (57 < (bt a0 x8_1)) = true := decide_eq_true c15
             clear c15
             obtain rfl := Option.some.inj H
             have p5 : 0 ≤ (x8_1 : Int) := of_decide_eq_true (by first | (with_reducible assumption) | assumption)
             have q5 : x8_1 < (a0.size : Int) := of_decide_eq_true (by first | (with_reducible assumption) | assumption)
             have hx5 := bt_at a0 x8_1
             replace p5 := eq_true p5
             replace q5 := eq_true q5
             go_wp2
             go_ret
             exact ⟨by first | rfl | (simp; done) | (simp [*]; done), by repeat (first | exact Drawn0.refl _ | apply Drawn0.step)⟩
            ·rw [if_neg c15] at H
             have c15b0 : decide (57 < (bt a0 x8_1)) = false := decide_eq_false c15
             clear c15
             have H' := Aside0.mk H
             clear H
             have p5 : 0 ≤ (x8_1 : Int) := of_decide_eq_true (by first | (with_reducible assumption) | assumption)
             have q5 : x8_1 < (a0.size : Int) := of_decide_eq_true (by first | (with_reducible assumption) | assumption)
             have hx5 := bt_at a0 x8_1
             replace p5 := eq_true p5
             replace q5 := eq_true q5
             go_wp2
             go_roundg k1
             case measure => have := HK1.out; omega
             case rel => exact ⟨(wrap64 (x8_1 + 1)), (by first | rfl | (simp; done) | (simp [*]; done)), H', ⟨by have := HK1.out; omega⟩, by repeat (first | exact Drawn0.refl _ | apply Drawn0.step)⟩
       ·rw [if_neg c6] at H
        have c6b0 : decide (97 ≤ (bt a0 x8_1)) = false := decide_eq_false c6
        clear c6
        by_cases c16 : (bt a0 x8_1) ≥ 65
        ·rw [if_pos c16] at H
         have c16b0 : decide (65 ≤ (bt a0 x8_1)) = true := decide_eq_true c16
         clear c16
         by_cases c17 : ((bt a0 x8_1) ≤ 90)
         ·rw [if_pos c17] at H
          have c17b0 : decide ((bt a0 x8_1) ≤ 90) = true := decide_eq_true c17
          clear c17
          have H' := Aside0.mk H
          clear H
          have p5 : 0 ≤ (x8_1 : Int) := of_decide_eq_true (by first | (with_reducible assumption) | assumption)
          have q5 : x8_1 < (a0.size : Int) := of_decide_eq_true (by first | (with_reducible assumption) | assumption)
          have hx5 := bt_at a0 x8_1
          replace p5 := eq_true p5
          replace q5 := eq_true q5
          go_wp2
          go_roundg k1
          case measure => have := HK1.out; omega
          case rel => exact ⟨(wrap64 (x8_1 + 1)), (by first | rfl | (simp; done) | (simp [*]; done)), H', ⟨by have := HK1.out; omega⟩, by repeat (first | exact Drawn0.refl _ | apply Drawn0.step)⟩
         ·rw [if_neg c17] at H
          have c17b0 : decide ((bt a0 x8_1) ≤ 90) = false := decide_eq_false c17
          clear c17
          by_cases c18 : x8_1 = 0
          ·rw [if_pos c18] at H
           have c18b0 : (x8_1 == 0) = true := beq_iff_eq.mpr c18
           have c18b1 : (x8_1 != 0) = false := bne_eq_false_iff_eq.mpr c18
           clear c18
           obtain rfl := Option.some.inj H
           have p5 : 0 ≤ (x8_1 : Int) := of_decide_eq_true (by first | (with_reducible assumption) | assumption)
           have q5 : x8_1 < (a0.size : Int) := of_decide_eq_true (by first | (with_reducible assumption) | assumption)
           have hx5 := bt_at a0 x8_1
           replace p5 := eq_true p5
           replace q5 := eq_true q5
           go_wp2
           go_ret
           exact ⟨by first | rfl | (simp; done) | (simp [*]; done), by repeat (first | exact Drawn0.refl _ | apply Drawn0.step)⟩
          ·rw [if_neg c18] at H
           have c18b0 : (x8_1 == 0) = false := beq_eq_false_iff_ne.mpr c18
           have c18b1 : (x8_1 != 0) = true := bne_iff_ne.mpr c18
           by_cases c19 : (bt a0 x8_1) < 48
           ·rw [if_pos c19] at H
            have c19b0 : decide ((bt a0 x8_1) < 48) = true := decide_eq_true c19
            clear c19
            obtain rfl := Option.some.inj H
            have p5 : 0 ≤ (x8_1 : Int) := of_decide_eq_true (by first | (with_reducible assumption) | assumption)
            have q5 : x8_1 < (a0.size : Int) := of_decide_eq_true (by first | (with_reducible assumption) | assumption)
            have hx5 := bt_at a0 x8_1
            replace p5 := eq_true p5
            replace q5 := eq_true q5
            go_wp2
            go_ret
            exact ⟨by first | rfl | (simp; done) | (simp [*]; done), by repeat (first | exact Drawn0.refl _ | apply Drawn0.step)⟩
           ·rw [if_neg c19] at H
            have c19b0 : decide ((bt a0 x8_1) < 48) = false := decide_eq_false c19
            clear c19
            by_cases c20 : (bt a0 x8_1) > 57
            ·rw [if_pos c20] at H
             have c20b0 : decide (57 < (bt a0 x8_1)) = true := decide_eq_true c20
             clear c20
             obtain rfl := Option.some.inj H
             have p5 : 0 ≤ (x8_1 : Int) := of_decide_eq_true (by first | (with_reducible assumption) | assumption)
             have q5 : x8_1 < (a0.size : Int) := of_decide_eq_true (by first | (with_reducible assumption) | assumption)
             have hx5 := bt_at a0 x8_1
             replace p5 := eq_true p5
             replace q5 := eq_true q5
             go_wp2
             go_ret
             exact ⟨by first | rfl | (simp; done) | (simp [*]; done), by repeat (first | exact Drawn0.refl _ | apply Drawn0.step)⟩
            ·rw [if_neg c20] at H
             have c20b0 : decide (57 < (bt a0 x8_1)) = false := decide_eq_false c20
             clear c20
             have H' := Aside0.mk H
             clear H
             have p5 : 0 ≤ (x8_1 : Int) := of_decide_eq_true (by first | (with_reducible assumption) | assumption)
             have q5 : x8_1 < (a0.size : Int) := of_decide_eq_true (by first | (with_reducible assumption) | assumption)
             have hx5 := bt_at a0 x8_1
             replace p5 := eq_true p5
             replace q5 := eq_true q5
             go_wp2
             go_roundg k1
             case measure => have := HK1.out; omega
             case rel => exact ⟨(wrap64 (x8_1 + 1)), (by first | rfl | (simp; done) | (simp [*]; done)), H', ⟨by have := HK1.out; omega⟩, by repeat (first | exact Drawn0.refl _ | apply Drawn0.step)⟩
        ·rw [if_neg c16] at H
         have c16b0 : decide (65 ≤ (bt a0 x8_1)) = false := decide_eq_false c16
         clear c16
         by_cases c21 : x8_1 = 0
         ·rw [if_pos c21] at H
          have c21b0 : (x8_1 == 0) = true := beq_iff_eq.mpr c21
          have c21b1 : (x8_1 != 0) = false := bne_eq_false_iff_eq.mpr c21
          clear c21
          obtain rfl := Option.some.inj H
          have p5 : 0 ≤ (x8_1 : Int) := of_decide_eq_true (by first | (with_reducible assumption) | assumption)
          have q5 : x8_1 < (a0.size : Int) := of_decide_eq_true (by first | (with_reducible assumption) | assumption)
          have hx5 := bt_at a0 x8_1
          replace p5 := eq_true p5
          replace q5 := eq_true q5
          go_wp2
          go_ret
          exact ⟨by first | rfl | (simp; done) | (simp [*]; done), by repeat (first | exact Drawn0.refl _ | apply Drawn0.step)⟩
         ·rw [if_neg c21] at H
          have c21b0 : (x8_1 == 0) = false := beq_eq_false_iff_ne.mpr c21
          have c21b1 : (x8_1 != 0) = true := bne_iff_ne.mpr c21
          by_cases c22 : (bt a0 x8_1) < 48
          ·rw [if_pos c22] at H
           have c22b0 : decide ((bt a0 x8_1) < 48) = true := decide_eq_true c22
           clear c22
           obtain rfl := Option.some.inj H
           have p5 : 0 ≤ (x8_1 : Int) := of_decide_eq_true (by first | (with_reducible assumption) | assumption)
           have q5 : x8_1 < (a0.size : Int) := of_decide_eq_true (by first | (with_reducible assumption) | assumption)
           have hx5 := bt_at a0 x8_1
           replace p5 := eq_true p5
           replace q5 := eq_true q5
           go_wp2
           go_ret
           exact ⟨by first | rfl | (simp; done) | (simp [*]; done), by repeat (first | exact Drawn0.refl _ | apply Drawn0.step)⟩
          ·rw [if_neg c22] at H
           have c22b0 : decide ((bt a0 x8_1) < 48) = false := decide_eq_false c22
           clear c22
           by_cases c23 : (bt a0 x8_1) > 57
           ·rw [if_pos c23] at H
            have c23b0 : decide (57 < (bt a0 x8_1)) = true := decide_eq_true c23
            clear c23
            obtain rfl := Option.some.inj H
            have p5 : 0 ≤ (x8_1 : Int) := of_decide_eq_true (by first | (with_reducible assumption) | assumption)
            have q5 : x8_1 < (a0.size : Int) := of_decide_eq_true (by first | (with_reducible assumption) | assumption)
            have hx5 := bt_at a0 x8_1
            replace p5 := eq_true p5
            replace q5 := eq_true q5
            go_wp2
            go_ret
            exact ⟨by first | rfl | (simp; done) | (simp [*]; done), by repeat (first | exact Drawn0.refl _ | apply Drawn0.step)⟩
           ·rw [if_neg c23] at H
            have c23b0 : decide (57 < (bt a0 x8_1)) = false := decide_eq_false c23
            clear c23
            have H' := Aside0.mk H
            clear H
            have p5 : 0 ≤ (x8_1 : Int) := of_decide_eq_true (by first | (with_reducible assumption) | assumption)
            have q5 : x8_1 < (a0.size : Int) := of_decide_eq_true (by first | (with_reducible assumption) | assumption)
            have hx5 := bt_at a0 x8_1
            replace p5 := eq_true p5
            replace q5 := eq_true q5
            go_wp2
            go_roundg k1
            case measure => have := HK1.out; omega
            case rel => exact ⟨(wrap64 (x8_1 + 1)), (by first | rfl | (simp; done) | (simp [*]; done)), H', ⟨by have := HK1.out; omega⟩, by repeat (first | exact Drawn0.refl _ | apply Drawn0.step)⟩
      ·rw [if_neg c4] at H
       exact absurd H (by simp)
     ·rw [if_neg c3] at H
      exact absurd H (by simp)
    ·rw [if_neg c2] at H
     have c2b0 : decide (x8_1 < (a0.size : Int)) = false := decide_eq_false c2
     clear c2
     by_cases c24 : a0.toList = ([] : List UInt8)
     ·rw [if_pos c24] at H
      have c24b0 : (a0.toList == ([] : List UInt8)) = true := beq_iff_eq.mpr c24
      have c24b1 : (a0.toList != ([] : List UInt8)) = false := bne_eq_false_iff_eq.mpr c24
      clear c24
      obtain rfl := Option.some.inj H
      go_wp2
      go_ret
      exact ⟨by first | rfl | (simp; done) | (simp [*]; done), by repeat (first | exact Drawn0.refl _ | apply Drawn0.step)⟩
     ·rw [if_neg c24] at H
      have c24b0 : (a0.toList == ([] : List UInt8)) = false := beq_eq_false_iff_ne.mpr c24
      have c24b1 : (a0.toList != ([] : List UInt8)) = true := bne_iff_ne.mpr c24
      obtain rfl := Option.some.inj H
      go_wp2
      go_ret
      exact ⟨by first | rfl | (simp; done) | (simp [*]; done), by repeat (first | exact Drawn0.refl _ | apply Drawn0.step)⟩

end Go.Proofs.YtclmjmfcggkpaaaGreatDoor.PX
