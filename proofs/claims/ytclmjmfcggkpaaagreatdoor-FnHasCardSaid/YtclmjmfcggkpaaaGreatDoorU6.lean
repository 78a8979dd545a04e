import Derived.Test.YtclmjmfcggkpaaaGreatDoorU4
set_option linter.unusedVariables false
namespace Go.Proofs.YtclmjmfcggkpaaaGreatDoor.PX
open Go.RowKit Go.Proofs.YtclmjmfcggkpaaaGreatDoorW.PrintWords Go.Proofs.YtclmjmfcggkpaaaGreatDoorW.PrintLast Go.Proofs.YtclmjmfcggkpaaaGreatDoorW.PrintMore
/-! ### The steps of a printed region, in one line each -/
section
variable {P : Program} {md : Region.Mode} {ops : Array Oper} {Q : Exit → Act → World → Prop} {S : World → Prop} {ds : List Nat}
theorem puk (i n : Nat) {oi : Oper} {v : Value} {fuel : Nat} {l l' : Array Bool} {a a' : Act} {w : World} (h : wpAnyLast P md ops Q S ds fuel l' a' w) (hi : ops[i]? = some oi := by rfl) (hN : oi.dst = some n := by rfl)
    (hl : l.setIfInBounds i true = l' := by simp only [List.setIfInBounds_toArray, List.set_cons_zero, List.set_cons_succ]; rfl) {T : Bool × List (List Nat × List Nat)} (hT : Aside0 (rtab md ops = T) := by exact HT_) (hc : anyT T l.toList l'.toList i = true := by kernel_rfl)
    (hQ : ∀ c a w, Q (.panic c) (a.put oi.dst v) w → Q (.panic c) a w := by exact fun _ _ _ h => h) (hg : Region.wanted oi (yielded ops a.tmps) = true := by rfl)
    (hy : ∀ w, (execOp a.eval oi).run P w = .ok (.value v) w := by intro w'; go_simp; with_reducible rfl)
    (ha : a.put (some n) v = a' := by simp only [Act.put, List.setIfInBounds_toArray, List.set_cons_zero, List.set_cons_succ, i64_w, i32_w]; rfl) : wpAnyLast P md ops Q S ds (fuel + 1) l a w :=
  pure_ l' hi hN (any_of hT.out hc) hQ (.inl ⟨hg, hy⟩) ha h
theorem pun (i n : Nat) {oi : Oper} {fuel : Nat} {l l' : Array Bool} {a a' : Act} {w : World} (h : wpAnyLast P md ops Q S ds fuel l' a' w) (hi : ops[i]? = some oi := by rfl) (hN : oi.dst = some n := by rfl)
    (hl : l.setIfInBounds i true = l' := by simp only [List.setIfInBounds_toArray, List.set_cons_zero, List.set_cons_succ]; rfl) {T : Bool × List (List Nat × List Nat)} (hT : Aside0 (rtab md ops = T) := by exact HT_) (hc : anyT T l.toList l'.toList i = true := by kernel_rfl)
    (hQ : ∀ c a w, Q (.panic c) (a.put oi.dst undef) w → Q (.panic c) a w := by exact fun _ _ _ h => h) (hg : Region.wanted oi (yielded ops a.tmps) = false := by rfl)
    (ha : a.put (some n) undef = a' := by simp only [Act.put, List.setIfInBounds_toArray, List.set_cons_zero, List.set_cons_succ, i64_w, i32_w]; rfl) : wpAnyLast P md ops Q S ds (fuel + 1) l a w :=
  pure_ l' hi hN (any_of hT.out hc) hQ (.inr ⟨hg, rfl⟩) ha h
theorem tak (i n : Nat) {oi : Oper} {v : Value} {fuel : Nat} {l l' : Array Bool} {a a' : Act} {w : World} (h : wpAnyLast P md ops Q S ds fuel l' a' w) (hi : ops[i]? = some oi := by rfl) (hN : oi.dst = some n := by rfl)
    (hl : l.setIfInBounds i true = l' := by simp only [List.setIfInBounds_toArray, List.set_cons_zero, List.set_cons_succ]; rfl) {T : Bool × List (List Nat × List Nat)} {B : List Nat} (hT : Aside0 (rtab md ops = T) := by exact HT_) (hB : Aside0 (waitsOk T.2 B = true) := by exact HW_) (hc : takeW T B ds l.toList l'.toList i = true := by kernel_rfl)
    (hQ : ∀ c a w, Q (.panic c) (a.put oi.dst v) w → Q (.panic c) a w := by exact fun _ _ _ h => h) (hg : Region.wanted oi (yielded ops a.tmps) = true := by rfl)
    (hy : ∀ w, S w → (execOp a.eval oi).run P w = .ok (.value v) w := by first | (intro w' _; go_simp; with_reducible rfl) | (rintro w' ⟨s0, s1, s2⟩; go_simp; with_reducible rfl) | (rintro w' ⟨s0, s1⟩; go_simp; with_reducible rfl)) (hS : S w := by exact hHeld)
    (ha : a.put (some n) v = a' := by simp only [Act.put, List.setIfInBounds_toArray, List.set_cons_zero, List.set_cons_succ, i64_w, i32_w]; rfl) : wpAnyLast P md ops Q S ds (fuel + 1) l a w :=
  take_ l' hi hN (take_ofW hT.out hB.out hc) hQ (.inl ⟨hg, hy⟩) hS ha h
theorem onk (i n : Nat) {oi : Oper} {fuel : Nat} {l l' : Array Bool} {a : Act} {w : World}
    (h : ∀ K : Act → World → Prop, Shut (∀ a' w', S w' → (S w' → wpAnyLast P md ops Q S ds fuel l' a' w') → K a' w') → if Region.wanted oi (yielded ops a.tmps) = true then Oper.wp P oi a w K Q else K (a.put (some n) undef) w)
    (hi : ops[i]? = some oi := by rfl) (hN : oi.dst = some n := by rfl) (hl : l.setIfInBounds i true = l' := by simp only [List.setIfInBounds_toArray, List.set_cons_zero, List.set_cons_succ]; rfl) {T : Bool × List (List Nat × List Nat)} (hT : Aside0 (rtab md ops = T) := by exact HT_)
    (hc : (readyT T.2 l.toList == [i] && l.toList.set i true == l'.toList) = true := by kernel_rfl) (hd : i ∉ ds := by decide) : wpAnyLast P md ops Q S ds (fuel + 1) l a w :=
  one_ l' hi hN (one_of hT.out hc) hd h
theorem nok (n : Nat) {fuel : Nat} {l : Array Bool} {a a' : Act} {v : Value} {w : World} (h : wpAnyLast P md ops Q S ds fuel l a' w) (ha : a.put (some n) v = a' := by simp only [Act.put, List.setIfInBounds_toArray, List.set_cons_zero, List.set_cons_succ, i64_w, i32_w]; rfl) : wpAnyLast P md ops Q S ds fuel l (a.put (some n) v) w :=
  norm_ ha h
end
end Go.Proofs.YtclmjmfcggkpaaaGreatDoor.PX
namespace Go.Proofs.YtclmjmfcggkpaaaGreatDoor.PX
open Go.RowKit Go.Proofs.YtclmjmfcggkpaaaGreatDoorW.PrintWords Go.Proofs.YtclmjmfcggkpaaaGreatDoorW.PrintLast Go.Proofs.YtclmjmfcggkpaaaGreatDoorW.PrintMore
attribute [local go_sem] max2_int min2_int max_two min_two max_three min_three max_four min_four   -- for this text's walks alone
set_option linter.unusedVariables false
set_option linter.unusedSimpArgs false

/-! ### smhttp_hexSign: function 93 -/
def smhttp_hexSign.f (a0 : Int) : Option (ByteArray) := if 0 ≤ (a0 / 16) then (if (a0 / 16) < 16 then (if 0 ≤ (Go.bits .and .u8 a0 15) then (if (Go.bits .and .u8 a0 15) < 16 then (some (strOfNums (([37, bt (⟨#[48, 49, 50, 51, 52, 53, 54, 55, 56, 57, 65, 66, 67, 68, 69, 70]⟩ : ByteArray) (a0 / 16), bt (⟨#[48, 49, 50, 51, 52, 53, 54, 55, 56, 57, 65, 66, 67, 68, 69, 70]⟩ : ByteArray) (Go.bits .and .u8 a0 15)] : List Int)))) else (none)) else (none)) else (none)) else (none)
def smhttp_hexSign.T1 : Bool × List (List Nat × List Nat) := (true, [([], []), ([0], [0]), ([1], [1]), ([], []), ([3], [3]), ([4], [4]), ([2, 5], [2, 5]), ([6], [6]), ([7, 0, 1, 2, 3, 4, 5, 6, 7], [7])])
def smhttp_hexSign.B1 : List Nat := [0, 1, 3, 0, 8, 24, 63, 127, 255]
theorem smhttp_hexSign.tab1 : rtab .any (opsOf Tryz.f93 1) = smhttp_hexSign.T1 := by kernel_rfl
theorem smhttp_hexSign.bits1 : waitsOk smhttp_hexSign.T1.2 smhttp_hexSign.B1 = true := by kernel_rfl
set_option maxHeartbeats 8000000 in
set_option maxRecDepth 100000 in
theorem smhttp_hexSign.calls (a0 : Int) (r : ByteArray) (w : World) (h : smhttp_hexSign.f a0 = some r) :
 Calls Tryz.prog 93 #[.int .u8 a0] w fun e w' => e = .returned (.string r) ∧ Below w.heap.size w w' := by
 have HB := Aside0.mk (Below.refl w.heap.size w)
 have H : (if 0 ≤ (a0 / 16) then (if (a0 / 16) < 16 then (if 0 ≤ (Go.bits .and .u8 a0 15) then (if (Go.bits .and .u8 a0 15) < 16 then (some (strOfNums (([37, bt (⟨#[48, 49, 50, 51, 52, 53, 54, 55, 56, 57, 65, 66, 67, 68, 69, 70]⟩ : ByteArray) (a0 / 16), bt (⟨#[48, 49, 50, 51, 52, 53, 54, 55, 56, 57, 65, 66, 67, 68, 69, 70]⟩ : ByteArray) (Go.bits .and .u8 a0 15)] : List Int)))) else (none)) else (none)) else (none)) else (none)) = some r := h
 clear h
 obtain ⟨ji2, hji2⟩ : ∃ j_ : Int, (a0 / 16) = j_ := ⟨_, rfl⟩
 replace H : (if 0 ≤ (ji2) then (if (ji2) < 16 then (if 0 ≤ (Go.bits .and .u8 a0 15) then (if (Go.bits .and .u8 a0 15) < 16 then (some (strOfNums (([37, bt (⟨#[48, 49, 50, 51, 52, 53, 54, 55, 56, 57, 65, 66, 67, 68, 69, 70]⟩ : ByteArray) (ji2), bt (⟨#[48, 49, 50, 51, 52, 53, 54, 55, 56, 57, 65, 66, 67, 68, 69, 70]⟩ : ByteArray) (Go.bits .and .u8 a0 15)] : List Int)))) else (none)) else (none)) else (none)) else (none)) = some r := by first | (rw [hji2] at H; exact H) | (simp only [hji2] at H ⊢; exact H)
 by_cases c3 : 0 ≤ (ji2)
 ·rw [if_pos c3] at H
  have c3b0 : decide (0 ≤ (ji2)) = true := decide_eq_true c3
  clear c3
  by_cases c4 : (ji2) < 16
  ·rw [if_pos c4] at H
   have c4b0 : decide ((ji2) < 16) = true := decide_eq_true c4
   clear c4
   by_cases c6 : 0 ≤ (Go.bits .and .u8 a0 15)
   ·rw [if_pos c6] at H
    have c6b0 : decide (0 ≤ (Go.bits .and .u8 a0 15)) = true := decide_eq_true c6
    clear c6
    by_cases c7 : (Go.bits .and .u8 a0 15) < 16
    ·rw [if_pos c7] at H
     have c7b0 : decide ((Go.bits .and .u8 a0 15) < 16) = true := decide_eq_true c7
     clear c7
     obtain ⟨y136, hy136⟩ : ∃ y_ : List Int, y_ = (([37, bt (⟨#[48, 49, 50, 51, 52, 53, 54, 55, 56, 57, 65, 66, 67, 68, 69, 70]⟩ : ByteArray) (ji2), bt (⟨#[48, 49, 50, 51, 52, 53, 54, 55, 56, 57, 65, 66, 67, 68, 69, 70]⟩ : ByteArray) (Go.bits .and .u8 a0 15)] : List Int)) := ⟨_, rfl⟩
     replace H : (some (strOfNums y136)) = some r := by (rw [hy136]; with_reducible exact H)
     have Ny136 := Aside0.mk hy136
     clear hy136
     obtain rfl := Option.some.inj H
     go_enter Tryz.func93, Tryz.ntmps93
     try go_wp2
     have n0_ := Aside0.mk (below_drew1 HB.out)
     clear HB
     have HB := n0_
     clear n0_
     have p5 : 0 ≤ ((ji2) : Int) := of_decide_eq_true (by first | (with_reducible assumption) | assumption)
     have q5 : (ji2) < (16 : Int) := of_decide_eq_true (by first | (with_reducible assumption) | assumption)
     have hx5 := bt_at (⟨#[48, 49, 50, 51, 52, 53, 54, 55, 56, 57, 65, 66, 67, 68, 69, 70]⟩ : ByteArray) (ji2)
     replace p5 := eq_true p5
     replace q5 := eq_true q5
     have p8 : 0 ≤ ((Go.bits .and .u8 a0 15) : Int) := of_decide_eq_true (by first | (with_reducible assumption) | assumption)
     have q8 : (Go.bits .and .u8 a0 15) < (16 : Int) := of_decide_eq_true (by first | (with_reducible assumption) | assumption)
     have hx8 := bt_at (⟨#[48, 49, 50, 51, 52, 53, 54, 55, 56, 57, 65, 66, 67, 68, 69, 70]⟩ : ByteArray) (Go.bits .and .u8 a0 15)
     replace p8 := eq_true p8
     replace q8 := eq_true q8
     refine start_ (n := 9) (S := fun w' => True) (ds := []) #[false, false, false, false, false, false, false, false, false] (by kernel_rfl) rfl rfl trivial (fun hHeld => ?_); refine with_tabW smhttp_hexSign.tab1 smhttp_hexSign.bits1 (fun HT_ HW_ => ?_)
     generalize w.drew = w9 at HB hHeld ⊢
     refine puk 0 3 ?_
     refine puk 1 4 ?_
     refine puk 3 6 ?_
     refine puk 4 7 ?_
     refine tak 2 5 ?_
     refine tak 5 8 ?_
     refine onk 6 9 (fun K hK => ?_)
     refine Kd.R_lit_step (Kd.int .u8) _ 5 ?hg (N := 9) ?hd (xs := ([37, bt (⟨#[48, 49, 50, 51, 52, 53, 54, 55, 56, 57, 65, 66, 67, 68, 69, 70]⟩ : ByteArray) (ji2), bt (⟨#[48, 49, 50, 51, 52, 53, 54, 55, 56, 57, 65, 66, 67, 68, 69, 70]⟩ : ByteArray) (Go.bits .and .u8 a0 15)] : List Int)) (inner := [.int .u8 37, .int .u8 (bt (⟨#[48, 49, 50, 51, 52, 53, 54, 55, 56, 57, 65, 66, 67, 68, 69, 70]⟩ : ByteArray) (ji2)), .int .u8 (bt (⟨#[48, 49, 50, 51, 52, 53, 54, 55, 56, 57, 65, 66, 67, 68, 69, 70]⟩ : ByteArray) (Go.bits .and .u8 a0 15))]) (ok := fun _ => True) (okp := fun _ => True) ?hr ?hp (fun _ hk => hk) trivial (Below.refl _ _) (Nat.le_refl _) (by simp) ?_; (case hd => rfl); (case hg => rfl); (case hr => first | (go_simp; done) | (go_simp; rfl)); (case hp => exact (Reps.one (show Kd.M (Kd.int .u8) _ _ _ 37 [.int .u8 37] from rfl) (Reps.one (show Kd.M (Kd.int .u8) _ _ _ (bt (⟨#[48, 49, 50, 51, 52, 53, 54, 55, 56, 57, 65, 66, 67, 68, 69, 70]⟩ : ByteArray) (ji2)) [.int .u8 (bt (⟨#[48, 49, 50, 51, 52, 53, 54, 55, 56, 57, 65, 66, 67, 68, 69, 70]⟩ : ByteArray) (ji2))] from rfl) (Reps.one (show Kd.M (Kd.int .u8) _ _ _ (bt (⟨#[48, 49, 50, 51, 52, 53, 54, 55, 56, 57, 65, 66, 67, 68, 69, 70]⟩ : ByteArray) (Go.bits .and .u8 a0 15)) [.int .u8 (bt (⟨#[48, 49, 50, 51, 52, 53, 54, 55, 56, 57, 65, 66, 67, 68, 69, 70]⟩ : ByteArray) (Go.bits .and .u8 a0 15))] from rfl) (Reps.none _ _)))))
     intro v137 w10 ho11 hb hg_ hnew_
     clear hg_ hnew_
     (rw [← Ny136.out] at ho11)
     have n0_ := Aside0.mk (Kd.R_lower ho11 (below_size (by repeat ((with_reducible exact HB.out)))))
     have n1_ := Aside0.mk (below_step (by repeat ((with_reducible exact HB.out))) hb)
     clear HB
     have HO138 := n0_
     have HB := n1_
     clear n0_ n1_
     clear hb ho11
     refine hK.out _ _ trivial (fun hHeld => ?_)
     clear hK K
     refine nok 9 ?_
     refine onk 7 10 (fun K hK => ?_)
     have hcv12 := own_string (P := Tryz.prog) Tryz.underlying104 Tryz.underlying5 Tryz.underlying9 (Kd.own_of_R HO138.out)
     refine value_ (w1 := ?_) (v := ?_) (by rfl) rfl ?_ ?_
     rotate_left 2
     ·go_simp
      constructor
      ·rfl
      ·rfl
     clear hcv12
     refine hK.out _ _ trivial (fun hHeld => ?_)
     clear hK K
     refine nok 10 ?_
     refine puk 8 2 ?_
     refine done_ (done_of HT_.out (by kernel_rfl)) ?_
     try go_wp2
     go_ret
     exact ⟨by rfl, by repeat ((with_reducible exact HB.out))⟩
    ·rw [if_neg c7] at H
     exact absurd H (by simp)
   ·rw [if_neg c6] at H
    exact absurd H (by simp)
  ·rw [if_neg c4] at H
   exact absurd H (by simp)
 ·rw [if_neg c3] at H
  exact absurd H (by simp)

end Go.Proofs.YtclmjmfcggkpaaaGreatDoor.PX
