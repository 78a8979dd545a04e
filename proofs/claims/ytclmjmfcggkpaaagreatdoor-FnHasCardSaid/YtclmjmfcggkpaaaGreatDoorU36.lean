import Derived.Test.YtclmjmfcggkpaaaGreatDoorU6
import Derived.Test.YtclmjmfcggkpaaaGreatDoorU4
import Derived.Test.YtclmjmfcggkpaaaGreatDoorU20
import Derived.Test.YtclmjmfcggkpaaaGreatDoorU35
namespace Go.Proofs.YtclmjmfcggkpaaaGreatDoor.PX
open Go.RowKit Go.Proofs.YtclmjmfcggkpaaaGreatDoorW.PrintWords Go.Proofs.YtclmjmfcggkpaaaGreatDoorW.PrintLast Go.Proofs.YtclmjmfcggkpaaaGreatDoorW.PrintMore
attribute [local go_sem] max2_int min2_int max_two min_two max_three min_three max_four min_four   -- for this text's walks alone
set_option linter.unusedVariables false
set_option linter.unusedSimpArgs false

/-! ### spec_IsHeaderName: function 35 -/
def spec_IsHeaderName.l0 : Nat → List ByteArray → Int → Int → Option (Bool)
 | 0, _, _, _ => none
 | k + 1, x6, x7, x8 => if x8 < x7 then (if 0 ≤ x8 then (if x8 < (x6.length : Int) then ((spec_isWord.f k (rdOf ByteArray.empty x6 x8)).bind fun t114 => (if t114 = true then (if 0 < ((rdOf ByteArray.empty x6 x8).size : Int) then (if (bt (rdOf ByteArray.empty x6 x8) 0) < 65 then (some false) else (if (bt (rdOf ByteArray.empty x6 x8) 0) > 90 then (some false) else (if 1 ≤ ((rdOf ByteArray.empty x6 x8).size : Int) then ((spec_small.f ((rdOf ByteArray.empty x6 x8).extract 1 (rdOf ByteArray.empty x6 x8).size)).bind fun t115 => (if ((rdOf ByteArray.empty x6 x8).extract 1 (rdOf ByteArray.empty x6 x8).size).toList = t115.toList then (spec_IsHeaderName.l0 k x6 x7 (wrap64 (x8 + 1))) else (some false))) else (none)))) else (none)) else (some false))) else (none)) else (none)) else (some true)
def spec_IsHeaderName.f (k : Nat) (a0 : ByteArray) : Option (Bool) := (spec_split.f k a0 45).bind fun t110 => (spec_IsHeaderName.l0 k t110 (t110.length : Int) 0)
theorem spec_IsHeaderName.mono_l : ∀ k, (∀ y0 y1 y2, LeO (spec_IsHeaderName.l0 k y0 y1 y2) (spec_IsHeaderName.l0 (k + 1) y0 y1 y2))
 | 0 => fun _ _ _ r h => by simp [spec_IsHeaderName.l0] at h
 | k + 1 => by
   have ih0 := spec_IsHeaderName.mono_l k
   ·intro y0 y1 y2
    unfold spec_IsHeaderName.l0
    repeat' first
    | (with_reducible exact ih0 _ _ _)
    | (with_reducible exact spec_isWord.mono _ _)
    | (with_reducible exact spec_split.mono _ _ _)
    | (with_reducible exact LeO.refl _)
    | (with_reducible exact LeO.none _)
    | (with_reducible refine LeO.ite ?_ ?_)
    | (with_reducible refine LeO.bind ?_ (fun _ => ?_))
    | exact ih0 _ _ _
    | exact spec_isWord.mono _ _
    | exact spec_split.mono _ _ _
    | exact LeO.none _
    | refine LeO.ite ?_ ?_
    | refine LeO.bind ?_ (fun _ => ?_)
theorem spec_IsHeaderName.mono : ∀ a0 k, LeO (spec_IsHeaderName.f k a0) (spec_IsHeaderName.f (k + 1) a0) := by
 intro a0 k
 have ih0 := spec_IsHeaderName.mono_l k
 unfold spec_IsHeaderName.f
 repeat' first
  | (with_reducible exact ih0 _ _ _)
  | (with_reducible exact spec_isWord.mono _ _)
  | (with_reducible exact spec_split.mono _ _ _)
  | (with_reducible exact LeO.refl _)
  | (with_reducible exact LeO.none _)
  | (with_reducible refine LeO.ite ?_ ?_)
  | (with_reducible refine LeO.bind ?_ (fun _ => ?_))
  | exact ih0 _ _ _
  | exact spec_isWord.mono _ _
  | exact spec_split.mono _ _ _
  | exact LeO.none _
  | refine LeO.ite ?_ ?_
  | refine LeO.bind ?_ (fun _ => ?_)
def spec_IsHeaderName.T4 : Bool × List (List Nat × List Nat) := (true, [([], []), ([0], [0]), ([1], [1]), ([2, 1], [2]), ([3], [3]), ([4, 3], [3, 4]), ([5, 3], [3, 5]), ([3, 6], [3, 6]), ([7, 3], [7]), ([8], [8]), ([9, 8], [8, 9]), ([10, 8], [8, 10]), ([8, 11], [8, 11]), ([12, 8], [12]), ([13], [13]), ([14, 13], [13, 14]), ([13], [13]), ([16, 13], [13, 16]), ([17, 13, 13], [13, 17]), ([15, 18, 13], [13, 15, 18]), ([13, 19], [13, 19])])
def spec_IsHeaderName.B4 : List Nat := [0, 1, 3, 7, 15, 31, 63, 127, 255, 511, 1023, 2047, 4095, 8191, 16383, 32767, 16383, 81919, 212991, 524287, 1048575]
theorem spec_IsHeaderName.tab4 : rtab .any (opsOf Tryz.f35 4) = spec_IsHeaderName.T4 := by kernel_rfl
theorem spec_IsHeaderName.bits4 : waitsOk spec_IsHeaderName.T4.2 spec_IsHeaderName.B4 = true := by kernel_rfl
set_option maxHeartbeats 8000000 in
set_option maxRecDepth 100000 in
theorem spec_IsHeaderName.calls (k : Nat) (a0 : ByteArray) (r : Bool) (w : World) (h : spec_IsHeaderName.f k a0 = some r) :
 Calls Tryz.prog 35 #[.string a0] w fun e w' => e = .returned (.bool r) ∧ Below w.heap.size w w' := by
 have HB := Aside0.mk (Below.refl w.heap.size w)
 have H : ((spec_split.f k a0 45).bind fun t110 => (spec_IsHeaderName.l0 k t110 (t110.length : Int) 0)) = some r := h
 clear h
 replace H := Option.bind_eq_some_iff.mp H
 obtain ⟨t110, A20, H⟩ := H
 replace H : (spec_IsHeaderName.l0 k t110 (t110.length : Int) 0) = some r := H
 have A2 := Aside0.mk A20
 clear A20
 have H' := Aside0.mk H
 clear H
 go_enter Tryz.func35, Tryz.ntmps35
 go_wp2_with (first | ((with_reducible refine gate_callee (f := 50) rfl ?_); refine goesL_ (some 6) rfl rfl Tryz.func50 (by kernel_rfl) rfl #[.string a0, .int .u8 45] rfl (by (try simp only [List.map_toArray, List.map_cons, List.map_nil]); rfl) ?_; (with_reducible refine (spec_split.calls k a0 45 t110 _ A2.out).mono ?_); rintro e w3 ⟨v111, rfl, ho0, hb⟩; refine ⟨_, rfl, ?_⟩; have n0_ := Aside0.mk (Kd.R_lower ho0 (below_size (by repeat ((with_reducible exact HB.out))))); have n1_ := Aside0.mk (below_step (by repeat ((with_reducible exact HB.out))) hb); clear HB; have HO112 := n0_; have HB := n1_; clear n0_ n1_; (try clear hb); (try clear hb2); (try clear hk); (try clear hi); (try clear ho0); obtain ⟨Ao4, co4, eo4⟩ := Kd.R_slice HO112.out; subst eo4))
 go_loopg [8] k (fun kq v8 w' => ∃ (x8_1 : Int), v8 = .int .i64 x8_1 ∧ Aside0 (spec_IsHeaderName.l0 kq t110 (t110.length : Int) x8_1 = some r) ∧ Aside0 (kq ≤ k) ∧ Aside0 (Kd.R Kd.string 9 w' w.heap.size (fun _ => True) (.slice Ao4 t110.length co4) t110) ∧ Aside0 (Below w.heap.size w w'))
 case atStart => exact ⟨(0), (by first | rfl | (simp; done) | (simp [*]; done)), H', ⟨Nat.le_refl _⟩, ⟨by (with_reducible repeat (first | apply Kd.R_alloc | apply Kd.R_drewN | apply Kd.R_drew)); exact HO112.out⟩, ⟨by repeat ((with_reducible exact HB.out))⟩⟩
 case round =>
  clear H'
  try clear p2
  try clear c3
  obtain ⟨x8_1, rfl, HA, HK1, HO_6, HB⟩ := hrel
  cases gk with
  | zero => exact absurd HA.out (by simp [spec_IsHeaderName.l0])
  | succ k1 =>
    have H := HA.out
    clear HA
    simp only [spec_IsHeaderName.l0] at H
    by_cases c5 : x8_1 < (t110.length : Int)
    ·rw [if_pos c5] at H
     have c5b0 : decide (x8_1 < (t110.length : Int)) = true := decide_eq_true c5
     clear c5
     by_cases c6 : 0 ≤ x8_1
     ·rw [if_pos c6] at H
      have c6b0 : decide (0 ≤ x8_1) = true := decide_eq_true c6
      clear c6
      by_cases c7 : x8_1 < (t110.length : Int)
      ·rw [if_pos c7] at H
       have c7b0 : decide (x8_1 < (t110.length : Int)) = true := decide_eq_true c7
       clear c7
       replace H := Option.bind_eq_some_iff.mp H
       obtain ⟨t114, A80, H⟩ := H
       replace H : (if t114 = true then (if 0 < ((rdOf ByteArray.empty t110 x8_1).size : Int) then (if (bt (rdOf ByteArray.empty t110 x8_1) 0) < 65 then (some false) else (if (bt (rdOf ByteArray.empty t110 x8_1) 0) > 90 then (some false) else (if 1 ≤ ((rdOf ByteArray.empty t110 x8_1).size : Int) then ((spec_small.f ((rdOf ByteArray.empty t110 x8_1).extract 1 (rdOf ByteArray.empty t110 x8_1).size)).bind fun t115 => (if ((rdOf ByteArray.empty t110 x8_1).extract 1 (rdOf ByteArray.empty t110 x8_1).size).toList = t115.toList then (spec_IsHeaderName.l0 k1 t110 (t110.length : Int) (wrap64 (x8_1 + 1))) else (some false))) else (none)))) else (none)) else (some false)) = some r := H
       have A8 := Aside0.mk A80
       clear A80
       by_cases c9 : t114 = true
       ·subst c9
        have H1 : (if 0 < ((rdOf ByteArray.empty t110 x8_1).size : Int) then (if (bt (rdOf ByteArray.empty t110 x8_1) 0) < 65 then (some false) else (if (bt (rdOf ByteArray.empty t110 x8_1) 0) > 90 then (some false) else (if 1 ≤ ((rdOf ByteArray.empty t110 x8_1).size : Int) then ((spec_small.f ((rdOf ByteArray.empty t110 x8_1).extract 1 (rdOf ByteArray.empty t110 x8_1).size)).bind fun t115 => (if ((rdOf ByteArray.empty t110 x8_1).extract 1 (rdOf ByteArray.empty t110 x8_1).size).toList = t115.toList then (spec_IsHeaderName.l0 k1 t110 (t110.length : Int) (wrap64 (x8_1 + 1))) else (some false))) else (none)))) else (none)) = some r := by rw [if_pos rfl] at H; exact H
        clear H
        have H := H1
        clear H1
        by_cases c10 : 0 < ((rdOf ByteArray.empty t110 x8_1).size : Int)
        ·rw [if_pos c10] at H
         have c10b0 : decide (0 < ((rdOf ByteArray.empty t110 x8_1).size : Int)) = true := decide_eq_true c10
         have c10b1 : decide (0 < (rdOf ByteArray.empty t110 x8_1).size) = true := decide_eq_true (by omega)
         clear c10
         by_cases c12 : (bt (rdOf ByteArray.empty t110 x8_1) 0) < 65
         ·rw [if_pos c12] at H
          have c12b0 : decide ((bt (rdOf ByteArray.empty t110 x8_1) 0) < 65) = true := decide_eq_true c12
          clear c12
          obtain rfl := Option.some.inj H
          have p113 : 0 ≤ (x8_1 : Int) := of_decide_eq_true (by first | (with_reducible assumption) | assumption)
          have q113 : x8_1 < (t110.length : Int) := of_decide_eq_true (by first | (with_reducible assumption) | assumption)
          obtain ⟨ad113, e113, hx113_0⟩ := Kd.at_string (Kd.R_reads' HO_6.out).2.2 x8_1 p113 q113
          cases e113
          replace p113 := eq_true p113
          replace q113 := eq_true q113
          try go_wp2
          have n0_ := Aside0.mk (Kd.R_drew HO_6.out)
          have n1_ := Aside0.mk (below_drew1 HB.out)
          clear HO_6
          clear HB
          have HO_6 := n0_
          have HB := n1_
          clear n0_ n1_
          refine start_ (n := 21) (S := fun w' => True) (ds := []) #[false, false, false, false, false, false, false, false, false, false, false, false, false, false, false, false, false, false, false, false, false] (by kernel_rfl) rfl rfl trivial (fun hHeld => ?_); refine with_tabW spec_IsHeaderName.tab4 spec_IsHeaderName.bits4 (fun HT_ HW_ => ?_)
          generalize wr.drew = w13 at HO_6 HB hHeld ⊢
          refine puk 0 12 ?_
          refine onk 1 13 (fun K hK => ?_)
          refine goes_ Tryz.func61 (by kernel_rfl) rfl #[.string (rdOf ByteArray.empty t110 x8_1)] (by rfl) rfl rfl (by (try simp only [List.map_toArray, List.map_cons, List.map_nil]); rfl) ?_
          with_reducible refine (spec_isWord.calls k1 (rdOf ByteArray.empty t110 x8_1) true _ A8.out).mono ?_
          rintro e w' ⟨rfl, ⟨nd, rfl⟩⟩
          refine ⟨_, rfl, ?_⟩
          have p11 : 0 ≤ (0 : Int) := (by omega)
          have q11 : 0 < (rdOf ByteArray.empty t110 x8_1).size := (by have : (0 : Int) < ((rdOf ByteArray.empty t110 x8_1).size : Int) := of_decide_eq_true (by first | (with_reducible assumption) | assumption); omega)
          have hx11 : ∀ h : 0 < (rdOf ByteArray.empty t110 x8_1).size, (((rdOf ByteArray.empty t110 x8_1)[0]'h).toNat : Int) = bt (rdOf ByteArray.empty t110 x8_1) 0 := bt_at (rdOf ByteArray.empty t110 x8_1) 0
          clear p11
          have qi11 : (0 < ((rdOf ByteArray.empty t110 x8_1).size : Int)) = True := eq_true (of_decide_eq_true (by first | (with_reducible assumption) | assumption))
          replace q11 := eq_true q11
          refine hK.out _ _ trivial (fun hHeld => ?_)
          clear hK K
          refine nok 13 ?_
          refine puk 2 14 ?_
          refine puk 3 15 ?_
          refine puk 4 16 ?_
          refine tak 5 17 ?_
          refine puk 6 18 ?_
          refine puk 7 19 ?_
          refine puk 8 20 ?_
          refine pun 9 21 ?_
          refine pun 10 22 ?_
          refine pun 11 23 ?_
          refine puk 12 24 ?_
          refine puk 13 25 ?_
          refine pun 14 26 ?_
          refine pun 15 27 ?_
          refine pun 16 28 ?_
          refine pun 17 29 ?_
          refine pun 18 30 ?_
          refine pun 19 31 ?_
          refine puk 20 32 ?_
          refine done_ (done_of HT_.out (by kernel_rfl)) ?_
          try go_wp2
          go_ret
          exact ⟨by rfl, by repeat ((with_reducible first | exact HB.out | apply pw_below_drewN ))⟩
         ·rw [if_neg c12] at H
          have c12b0 : decide ((bt (rdOf ByteArray.empty t110 x8_1) 0) < 65) = false := decide_eq_false c12
          clear c12
          by_cases c15 : (bt (rdOf ByteArray.empty t110 x8_1) 0) > 90
          ·rw [if_pos c15] at H
           have c15b0 : decide (90 < (bt (rdOf ByteArray.empty t110 x8_1) 0)) = true := decide_eq_true c15
           clear c15
           obtain rfl := Option.some.inj H
           have p113 : 0 ≤ (x8_1 : Int) := of_decide_eq_true (by first | (with_reducible assumption) | assumption)
           have q113 : x8_1 < (t110.length : Int) := of_decide_eq_true (by first | (with_reducible assumption) | assumption)
           obtain ⟨ad113, e113, hx113_0⟩ := Kd.at_string (Kd.R_reads' HO_6.out).2.2 x8_1 p113 q113
           cases e113
           replace p113 := eq_true p113
           replace q113 := eq_true q113
           try go_wp2
           have n0_ := Aside0.mk (Kd.R_drew HO_6.out)
           have n1_ := Aside0.mk (below_drew1 HB.out)
           clear HO_6
           clear HB
           have HO_6 := n0_
           have HB := n1_
           clear n0_ n1_
           refine start_ (n := 21) (S := fun w' => True) (ds := []) #[false, false, false, false, false, false, false, false, false, false, false, false, false, false, false, false, false, false, false, false, false] (by kernel_rfl) rfl rfl trivial (fun hHeld => ?_); refine with_tabW spec_IsHeaderName.tab4 spec_IsHeaderName.bits4 (fun HT_ HW_ => ?_)
           generalize wr.drew = w16 at HO_6 HB hHeld ⊢
           refine puk 0 12 ?_
           refine onk 1 13 (fun K hK => ?_)
           refine goes_ Tryz.func61 (by kernel_rfl) rfl #[.string (rdOf ByteArray.empty t110 x8_1)] (by rfl) rfl rfl (by (try simp only [List.map_toArray, List.map_cons, List.map_nil]); rfl) ?_
           with_reducible refine (spec_isWord.calls k1 (rdOf ByteArray.empty t110 x8_1) true _ A8.out).mono ?_
           rintro e w' ⟨rfl, ⟨nd, rfl⟩⟩
           refine ⟨_, rfl, ?_⟩
           have p11 : 0 ≤ (0 : Int) := (by omega)
           have q11 : 0 < (rdOf ByteArray.empty t110 x8_1).size := (by have : (0 : Int) < ((rdOf ByteArray.empty t110 x8_1).size : Int) := of_decide_eq_true (by first | (with_reducible assumption) | assumption); omega)
           have hx11 : ∀ h : 0 < (rdOf ByteArray.empty t110 x8_1).size, (((rdOf ByteArray.empty t110 x8_1)[0]'h).toNat : Int) = bt (rdOf ByteArray.empty t110 x8_1) 0 := bt_at (rdOf ByteArray.empty t110 x8_1) 0
           clear p11
           have qi11 : (0 < ((rdOf ByteArray.empty t110 x8_1).size : Int)) = True := eq_true (of_decide_eq_true (by first | (with_reducible assumption) | assumption))
           replace q11 := eq_true q11
           have p14 : 0 ≤ (0 : Int) := (by omega)
           have q14 : 0 < (rdOf ByteArray.empty t110 x8_1).size := (by have : (0 : Int) < ((rdOf ByteArray.empty t110 x8_1).size : Int) := of_decide_eq_true (by first | (with_reducible assumption) | assumption); omega)
           have hx14 : ∀ h : 0 < (rdOf ByteArray.empty t110 x8_1).size, (((rdOf ByteArray.empty t110 x8_1)[0]'h).toNat : Int) = bt (rdOf ByteArray.empty t110 x8_1) 0 := bt_at (rdOf ByteArray.empty t110 x8_1) 0
           clear p14
           have qi14 : (0 < ((rdOf ByteArray.empty t110 x8_1).size : Int)) = True := eq_true (of_decide_eq_true (by first | (with_reducible assumption) | assumption))
           replace q14 := eq_true q14
           refine hK.out _ _ trivial (fun hHeld => ?_)
           clear hK K
           refine nok 13 ?_
           refine puk 2 14 ?_
           refine puk 3 15 ?_
           refine puk 4 16 ?_
           refine tak 5 17 ?_
           refine puk 6 18 ?_
           refine puk 7 19 ?_
           refine puk 8 20 ?_
           refine puk 9 21 ?_
           refine tak 10 22 ?_
           refine puk 11 23 ?_
           refine puk 12 24 ?_
           refine puk 13 25 ?_
           refine pun 14 26 ?_
           refine pun 15 27 ?_
           refine pun 16 28 ?_
           refine pun 17 29 ?_
           refine pun 18 30 ?_
           refine pun 19 31 ?_
           refine puk 20 32 ?_
           refine done_ (done_of HT_.out (by kernel_rfl)) ?_
           try go_wp2
           go_ret
           exact ⟨by rfl, by repeat ((with_reducible first | exact HB.out | apply pw_below_drewN ))⟩
          ·rw [if_neg c15] at H
           have c15b0 : decide (90 < (bt (rdOf ByteArray.empty t110 x8_1) 0)) = false := decide_eq_false c15
           clear c15
           by_cases c17 : 1 ≤ ((rdOf ByteArray.empty t110 x8_1).size : Int)
           ·rw [if_pos c17] at H
            have c17b0 := eq_true c17
            have c17b1 : decide (1 ≤ ((rdOf ByteArray.empty t110 x8_1).size : Int)) = true := decide_eq_true c17
            clear c17
            have c18b0 := eq_true (of_decide_eq_true (by first | (with_reducible assumption) | assumption) : 1 ≤ ((rdOf ByteArray.empty t110 x8_1).size : Int))
            replace H := Option.bind_eq_some_iff.mp H
            obtain ⟨t115, A190, H⟩ := H
            replace H : (if ((rdOf ByteArray.empty t110 x8_1).extract 1 (rdOf ByteArray.empty t110 x8_1).size).toList = t115.toList then (spec_IsHeaderName.l0 k1 t110 (t110.length : Int) (wrap64 (x8_1 + 1))) else (some false)) = some r := H
            have A19 := Aside0.mk A190
            clear A190
            by_cases c20 : ((rdOf ByteArray.empty t110 x8_1).extract 1 (rdOf ByteArray.empty t110 x8_1).size).toList = t115.toList
            ·rw [if_pos c20] at H
             have c20b0 : (((rdOf ByteArray.empty t110 x8_1).extract 1 (rdOf ByteArray.empty t110 x8_1).size).toList == t115.toList) = true := beq_iff_eq.mpr c20
             have c20b1 : (((rdOf ByteArray.empty t110 x8_1).extract 1 (rdOf ByteArray.empty t110 x8_1).size).toList != t115.toList) = false := bne_eq_false_iff_eq.mpr c20
             clear c20
             have H' := Aside0.mk H
             clear H
             have p113 : 0 ≤ (x8_1 : Int) := of_decide_eq_true (by first | (with_reducible assumption) | assumption)
             have q113 : x8_1 < (t110.length : Int) := of_decide_eq_true (by first | (with_reducible assumption) | assumption)
             obtain ⟨ad113, e113, hx113_0⟩ := Kd.at_string (Kd.R_reads' HO_6.out).2.2 x8_1 p113 q113
             cases e113
             replace p113 := eq_true p113
             replace q113 := eq_true q113
             try go_wp2
             have n0_ := Aside0.mk (Kd.R_drew HO_6.out)
             have n1_ := Aside0.mk (below_drew1 HB.out)
             clear HO_6
             clear HB
             have HO_6 := n0_
             have HB := n1_
             clear n0_ n1_
             refine start_ (n := 21) (S := fun w' => True) (ds := []) #[false, false, false, false, false, false, false, false, false, false, false, false, false, false, false, false, false, false, false, false, false] (by kernel_rfl) rfl rfl trivial (fun hHeld => ?_); refine with_tabW spec_IsHeaderName.tab4 spec_IsHeaderName.bits4 (fun HT_ HW_ => ?_)
             generalize wr.drew = w21 at HO_6 HB hHeld ⊢
             refine puk 0 12 ?_
             refine onk 1 13 (fun K hK => ?_)
             refine goes_ Tryz.func61 (by kernel_rfl) rfl #[.string (rdOf ByteArray.empty t110 x8_1)] (by rfl) rfl rfl (by (try simp only [List.map_toArray, List.map_cons, List.map_nil]); rfl) ?_
             with_reducible refine (spec_isWord.calls k1 (rdOf ByteArray.empty t110 x8_1) true _ A8.out).mono ?_
             rintro e w' ⟨rfl, ⟨nd, rfl⟩⟩
             refine ⟨_, rfl, ?_⟩
             have p11 : 0 ≤ (0 : Int) := (by omega)
             have q11 : 0 < (rdOf ByteArray.empty t110 x8_1).size := (by have : (0 : Int) < ((rdOf ByteArray.empty t110 x8_1).size : Int) := of_decide_eq_true (by first | (with_reducible assumption) | assumption); omega)
             have hx11 : ∀ h : 0 < (rdOf ByteArray.empty t110 x8_1).size, (((rdOf ByteArray.empty t110 x8_1)[0]'h).toNat : Int) = bt (rdOf ByteArray.empty t110 x8_1) 0 := bt_at (rdOf ByteArray.empty t110 x8_1) 0
             clear p11
             have qi11 : (0 < ((rdOf ByteArray.empty t110 x8_1).size : Int)) = True := eq_true (of_decide_eq_true (by first | (with_reducible assumption) | assumption))
             replace q11 := eq_true q11
             have p14 : 0 ≤ (0 : Int) := (by omega)
             have q14 : 0 < (rdOf ByteArray.empty t110 x8_1).size := (by have : (0 : Int) < ((rdOf ByteArray.empty t110 x8_1).size : Int) := of_decide_eq_true (by first | (with_reducible assumption) | assumption); omega)
             have hx14 : ∀ h : 0 < (rdOf ByteArray.empty t110 x8_1).size, (((rdOf ByteArray.empty t110 x8_1)[0]'h).toNat : Int) = bt (rdOf ByteArray.empty t110 x8_1) 0 := bt_at (rdOf ByteArray.empty t110 x8_1) 0
             clear p14
             have qi14 : (0 < ((rdOf ByteArray.empty t110 x8_1).size : Int)) = True := eq_true (of_decide_eq_true (by first | (with_reducible assumption) | assumption))
             replace q14 := eq_true q14
             refine hK.out _ _ trivial (fun hHeld => ?_)
             clear hK K
             refine nok 13 ?_
             refine puk 2 14 ?_
             refine puk 3 15 ?_
             refine puk 4 16 ?_
             refine tak 5 17 ?_
             refine puk 6 18 ?_
             refine puk 7 19 ?_
             refine puk 8 20 ?_
             refine puk 9 21 ?_
             refine tak 10 22 ?_
             refine puk 11 23 ?_
             refine puk 12 24 ?_
             refine puk 13 25 ?_
             refine puk 14 26 ?_
             refine puk 15 27 ?_
             refine puk 16 28 ?_
             refine puk 17 29 ?_
             refine onk 18 30 (fun K hK => ?_)
             refine goes_ Tryz.func62 (by kernel_rfl) rfl #[.string ((rdOf ByteArray.empty t110 x8_1).extract 1 (rdOf ByteArray.empty t110 x8_1).size)] (by rfl) rfl rfl (by (try simp only [List.map_toArray, List.map_cons, List.map_nil]); rfl) ?_
             with_reducible refine (spec_small.calls ((rdOf ByteArray.empty t110 x8_1).extract 1 (rdOf ByteArray.empty t110 x8_1).size) t115 _ A19.out).mono ?_
             rintro e w22 ⟨rfl, hb⟩
             refine ⟨_, rfl, ?_⟩
             have n0_ := Aside0.mk (Kd.R_below (by (with_reducible repeat (first | apply Kd.R_alloc | apply Kd.R_drewN | apply Kd.R_drew)); exact HO_6.out) hb)
             have n1_ := Aside0.mk (below_step (by repeat ((with_reducible first | exact HB.out | apply pw_below_drewN ))) hb)
             clear HO_6
             clear HB
             have HO_6 := n0_
             have HB := n1_
             clear n0_ n1_
             (try clear hb)
             (try clear hb2)
             (try clear hk)
             (try clear hi)
             refine hK.out _ _ trivial (fun hHeld => ?_)
             clear hK K
             refine nok 30 ?_
             refine puk 19 31 ?_
             refine puk 20 32 ?_
             refine done_ (done_of HT_.out (by kernel_rfl)) ?_
             try go_wp2
             go_roundg k1
             case measure => have := HK1.out; omega
             case rel => exact ⟨(wrap64 (x8_1 + 1)), (by first | rfl | (simp; done) | (simp [*]; done)), H', ⟨by have := HK1.out; omega⟩, ⟨by (with_reducible repeat (first | apply Kd.R_alloc | apply Kd.R_drewN | apply Kd.R_drew)); exact HO_6.out⟩, ⟨by repeat ((with_reducible exact HB.out))⟩⟩
            ·rw [if_neg c20] at H
             have c20b0 : (((rdOf ByteArray.empty t110 x8_1).extract 1 (rdOf ByteArray.empty t110 x8_1).size).toList == t115.toList) = false := beq_eq_false_iff_ne.mpr c20
             have c20b1 : (((rdOf ByteArray.empty t110 x8_1).extract 1 (rdOf ByteArray.empty t110 x8_1).size).toList != t115.toList) = true := bne_iff_ne.mpr c20
             obtain rfl := Option.some.inj H
             have p113 : 0 ≤ (x8_1 : Int) := of_decide_eq_true (by first | (with_reducible assumption) | assumption)
             have q113 : x8_1 < (t110.length : Int) := of_decide_eq_true (by first | (with_reducible assumption) | assumption)
             obtain ⟨ad113, e113, hx113_0⟩ := Kd.at_string (Kd.R_reads' HO_6.out).2.2 x8_1 p113 q113
             cases e113
             replace p113 := eq_true p113
             replace q113 := eq_true q113
             try go_wp2
             have n0_ := Aside0.mk (Kd.R_drew HO_6.out)
             have n1_ := Aside0.mk (below_drew1 HB.out)
             clear HO_6
             clear HB
             have HO_6 := n0_
             have HB := n1_
             clear n0_ n1_
             refine start_ (n := 21) (S := fun w' => True) (ds := []) #[false, false, false, false, false, false, false, false, false, false, false, false, false, false, false, false, false, false, false, false, false] (by kernel_rfl) rfl rfl trivial (fun hHeld => ?_); refine with_tabW spec_IsHeaderName.tab4 spec_IsHeaderName.bits4 (fun HT_ HW_ => ?_)
             generalize wr.drew = w23 at HO_6 HB hHeld ⊢
             refine puk 0 12 ?_
             refine onk 1 13 (fun K hK => ?_)
             refine goes_ Tryz.func61 (by kernel_rfl) rfl #[.string (rdOf ByteArray.empty t110 x8_1)] (by rfl) rfl rfl (by (try simp only [List.map_toArray, List.map_cons, List.map_nil]); rfl) ?_
             with_reducible refine (spec_isWord.calls k1 (rdOf ByteArray.empty t110 x8_1) true _ A8.out).mono ?_
             rintro e w' ⟨rfl, ⟨nd, rfl⟩⟩
             refine ⟨_, rfl, ?_⟩
             have p11 : 0 ≤ (0 : Int) := (by omega)
             have q11 : 0 < (rdOf ByteArray.empty t110 x8_1).size := (by have : (0 : Int) < ((rdOf ByteArray.empty t110 x8_1).size : Int) := of_decide_eq_true (by first | (with_reducible assumption) | assumption); omega)
             have hx11 : ∀ h : 0 < (rdOf ByteArray.empty t110 x8_1).size, (((rdOf ByteArray.empty t110 x8_1)[0]'h).toNat : Int) = bt (rdOf ByteArray.empty t110 x8_1) 0 := bt_at (rdOf ByteArray.empty t110 x8_1) 0
             clear p11
             have qi11 : (0 < ((rdOf ByteArray.empty t110 x8_1).size : Int)) = True := eq_true (of_decide_eq_true (by first | (with_reducible assumption) | assumption))
             replace q11 := eq_true q11
             have p14 : 0 ≤ (0 : Int) := (by omega)
             have q14 : 0 < (rdOf ByteArray.empty t110 x8_1).size := (by have : (0 : Int) < ((rdOf ByteArray.empty t110 x8_1).size : Int) := of_decide_eq_true (by first | (with_reducible assumption) | assumption); omega)
             have hx14 : ∀ h : 0 < (rdOf ByteArray.empty t110 x8_1).size, (((rdOf ByteArray.empty t110 x8_1)[0]'h).toNat : Int) = bt (rdOf ByteArray.empty t110 x8_1) 0 := bt_at (rdOf ByteArray.empty t110 x8_1) 0
             clear p14
             have qi14 : (0 < ((rdOf ByteArray.empty t110 x8_1).size : Int)) = True := eq_true (of_decide_eq_true (by first | (with_reducible assumption) | assumption))
             replace q14 := eq_true q14
             refine hK.out _ _ trivial (fun hHeld => ?_)
             clear hK K
             refine nok 13 ?_
             refine puk 2 14 ?_
             refine puk 3 15 ?_
             refine puk 4 16 ?_
             refine tak 5 17 ?_
             refine puk 6 18 ?_
             refine puk 7 19 ?_
             refine puk 8 20 ?_
             refine puk 9 21 ?_
             refine tak 10 22 ?_
             refine puk 11 23 ?_
             refine puk 12 24 ?_
             refine puk 13 25 ?_
             refine puk 14 26 ?_
             refine puk 15 27 ?_
             refine puk 16 28 ?_
             refine puk 17 29 ?_
             refine onk 18 30 (fun K hK => ?_)
             refine goes_ Tryz.func62 (by kernel_rfl) rfl #[.string ((rdOf ByteArray.empty t110 x8_1).extract 1 (rdOf ByteArray.empty t110 x8_1).size)] (by rfl) rfl rfl (by (try simp only [List.map_toArray, List.map_cons, List.map_nil]); rfl) ?_
             with_reducible refine (spec_small.calls ((rdOf ByteArray.empty t110 x8_1).extract 1 (rdOf ByteArray.empty t110 x8_1).size) t115 _ A19.out).mono ?_
             rintro e w24 ⟨rfl, hb⟩
             refine ⟨_, rfl, ?_⟩
             have n0_ := Aside0.mk (Kd.R_below (by (with_reducible repeat (first | apply Kd.R_alloc | apply Kd.R_drewN | apply Kd.R_drew)); exact HO_6.out) hb)
             have n1_ := Aside0.mk (below_step (by repeat ((with_reducible first | exact HB.out | apply pw_below_drewN ))) hb)
             clear HO_6
             clear HB
             have HO_6 := n0_
             have HB := n1_
             clear n0_ n1_
             (try clear hb)
             (try clear hb2)
             (try clear hk)
             (try clear hi)
             refine hK.out _ _ trivial (fun hHeld => ?_)
             clear hK K
             refine nok 30 ?_
             refine puk 19 31 ?_
             refine puk 20 32 ?_
             refine done_ (done_of HT_.out (by kernel_rfl)) ?_
             try go_wp2
             go_ret
             exact ⟨by rfl, by repeat ((with_reducible exact HB.out))⟩
           ·rw [if_neg c17] at H
            exact absurd H (by simp)
        ·rw [if_neg c10] at H
         exact absurd H (by simp)
       ·replace c9 := Bool.eq_false_iff.mpr c9
        subst c9
        have H1 : (some false) = some r := by rw [if_neg (show ¬ (false = true) by decide)] at H; exact H
        clear H
        have H := H1
        clear H1
        obtain rfl := Option.some.inj H
        have p113 : 0 ≤ (x8_1 : Int) := of_decide_eq_true (by first | (with_reducible assumption) | assumption)
        have q113 : x8_1 < (t110.length : Int) := of_decide_eq_true (by first | (with_reducible assumption) | assumption)
        obtain ⟨ad113, e113, hx113_0⟩ := Kd.at_string (Kd.R_reads' HO_6.out).2.2 x8_1 p113 q113
        cases e113
        replace p113 := eq_true p113
        replace q113 := eq_true q113
        try go_wp2
        have n0_ := Aside0.mk (Kd.R_drew HO_6.out)
        have n1_ := Aside0.mk (below_drew1 HB.out)
        clear HO_6
        clear HB
        have HO_6 := n0_
        have HB := n1_
        clear n0_ n1_
        refine start_ (n := 21) (S := fun w' => True) (ds := []) #[false, false, false, false, false, false, false, false, false, false, false, false, false, false, false, false, false, false, false, false, false] (by kernel_rfl) rfl rfl trivial (fun hHeld => ?_); refine with_tabW spec_IsHeaderName.tab4 spec_IsHeaderName.bits4 (fun HT_ HW_ => ?_)
        generalize wr.drew = w25 at HO_6 HB hHeld ⊢
        refine puk 0 12 ?_
        refine onk 1 13 (fun K hK => ?_)
        refine goes_ Tryz.func61 (by kernel_rfl) rfl #[.string (rdOf ByteArray.empty t110 x8_1)] (by rfl) rfl rfl (by (try simp only [List.map_toArray, List.map_cons, List.map_nil]); rfl) ?_
        with_reducible refine (spec_isWord.calls k1 (rdOf ByteArray.empty t110 x8_1) false _ A8.out).mono ?_
        rintro e w' ⟨rfl, ⟨nd, rfl⟩⟩
        refine ⟨_, rfl, ?_⟩
        refine hK.out _ _ trivial (fun hHeld => ?_)
        clear hK K
        refine nok 13 ?_
        refine puk 2 14 ?_
        refine puk 3 15 ?_
        refine pun 4 16 ?_
        refine pun 5 17 ?_
        refine pun 6 18 ?_
        refine puk 7 19 ?_
        refine puk 8 20 ?_
        refine pun 9 21 ?_
        refine pun 10 22 ?_
        refine pun 11 23 ?_
        refine puk 12 24 ?_
        refine puk 13 25 ?_
        refine pun 14 26 ?_
        refine pun 15 27 ?_
        refine pun 16 28 ?_
        refine pun 17 29 ?_
        refine pun 18 30 ?_
        refine pun 19 31 ?_
        refine puk 20 32 ?_
        refine done_ (done_of HT_.out (by kernel_rfl)) ?_
        try go_wp2
        go_ret
        exact ⟨by rfl, by repeat ((with_reducible first | exact HB.out | apply pw_below_drewN ))⟩
      ·rw [if_neg c7] at H
       exact absurd H (by simp)
     ·rw [if_neg c6] at H
      exact absurd H (by simp)
    ·rw [if_neg c5] at H
     have c5b0 : decide (x8_1 < (t110.length : Int)) = false := decide_eq_false c5
     clear c5
     obtain rfl := Option.some.inj H
     go_wp2
     go_ret
     exact ⟨by rfl, by repeat ((with_reducible exact HB.out))⟩

end Go.Proofs.YtclmjmfcggkpaaaGreatDoor.PX
