import Derived.Test.YtkihaebaccdjdaaGreatDoorJ4
namespace Go.Proofs.YtkihaebaccdjdaaGreatDoor.PX
open Go.RowKit Go.Proofs.YtkihaebaccdjdaaGreatDoorW.PrintWords Go.Proofs.YtkihaebaccdjdaaGreatDoorW.PrintLast Go.Proofs.YtkihaebaccdjdaaGreatDoorW.PrintMore
attribute [local go_sem] max2_int min2_int max_two min_two max_three min_three max_four min_four   -- for this text's walks alone
set_option linter.unusedVariables false
set_option linter.unusedSimpArgs false

/-- A state of type 80 at block g of W; what its slices lead to came in by w0. -/
def IsS80 (w0 W : World) (g : Nat) (f0 : ByteArray) (f1 : Bool) : Prop := W.heap[g]? = some (.cells #[.string f0, .bool f1] 80 (0, 0)) ∧ w0.heap.size ≤ g
theorem IsS80.grown {w0 W : World} {g : Nat} {f0 : ByteArray} {f1 : Bool} {W1 : World} {row : Option Nat} (h : IsS80 w0 W g f0 f1) (hw : W.grownBy W1 row) (hne : some g ≠ row) : IsS80 w0 W1 g f0 f1 := by
  obtain ⟨hb, hg⟩ := h
  exact ⟨blk_grown hb hw hne, hg⟩
theorem IsS80.below {w0 W : World} {g : Nat} {f0 : ByteArray} {f1 : Bool} {W1 : World} (h : IsS80 w0 W g f0 f1) (hw : Below W.heap.size W W1) : IsS80 w0 W1 g f0 f1 := h.grown (grown_of_below hw none) (by simp)
theorem IsS80.drewN {w0 W : World} {g : Nat} {f0 : ByteArray} {f1 : Bool} (h : IsS80 w0 W g f0 f1) (m : Nat) : IsS80 w0 (W.drewN m) g f0 f1 := h
theorem IsS80.drew {w0 W : World} {g : Nat} {f0 : ByteArray} {f1 : Bool} (h : IsS80 w0 W g f0 f1) : IsS80 w0 W.drew g f0 f1 := h
theorem IsS80.apart {w0 W : World} {g : Nat} {f0 : ByteArray} {f1 : Bool} {α : Type} {d : Kd α} {e : Nat} {base : Nat} {ok : Nat → Prop} {v : Value} {xs : List α} (h : IsS80 w0 W g f0 f1) (ho : d.R e W base ok v xs) (ht : ∀ q, q ∈ e :: d.E → q ≠ 80) : d.R e W base (fun k => ok k ∧ k ≠ g) v xs := by
  obtain ⟨hb, hg⟩ := h
  exact Kd.R_types ho hb ht
theorem IsS80.own_ne {w0 W : World} {g : Nat} {f0 : ByteArray} {f1 : Bool} {α : Type} {d : Kd α} {e : Nat} {base : Nat} {ok : Nat → Prop} {v : Value} {xs : List α} (h : IsS80 w0 W g f0 f1) (ho : d.R e W base ok v xs) (ht : e ≠ 80) : some g ≠ v.ownBlock := by
  obtain ⟨hb, hg⟩ := h
  exact Kd.R_ne ho hb ht
theorem IsS80.lt {w0 W : World} {g : Nat} {f0 : ByteArray} {f1 : Bool} (h : IsS80 w0 W g f0 f1) : g < W.heap.size := by
  obtain ⟨hb, hg⟩ := h
  exact blk_lt hb
theorem IsS80.ge {w0 W : World} {g : Nat} {f0 : ByteArray} {f1 : Bool} (h : IsS80 w0 W g f0 f1) : w0.heap.size ≤ g := by
  obtain ⟨hb, hg⟩ := h
  exact hg
theorem cellS80_0 {W : World} {g : Nat} {f0 : ByteArray} {f1 : Bool} (h : W.heap[g]? = some (.cells #[.string f0, .bool f1] 80 (0, 0))) : W.cell? ⟨g, 0, none⟩ = some (.string f0) := (blk_cell h 0).trans rfl
theorem IsS80.set_0 {w0 W : World} {g : Nat} {f0 : ByteArray} {f1 : Bool} (h : IsS80 w0 W g f0 f1) (x : ByteArray) : IsS80 w0 (W.setCell ⟨g, 0, none⟩ (.string x)) g x f1 := by
  obtain ⟨hb, hg⟩ := h
  exact ⟨by simpa using blk_set hb 0 (.string x), hg⟩
theorem cellS80_1 {W : World} {g : Nat} {f0 : ByteArray} {f1 : Bool} (h : W.heap[g]? = some (.cells #[.string f0, .bool f1] 80 (0, 0))) : W.cell? ⟨g, 1, none⟩ = some (.bool f1) := (blk_cell h 1).trans rfl
theorem IsS80.set_1 {w0 W : World} {g : Nat} {f0 : ByteArray} {f1 : Bool} (h : IsS80 w0 W g f0 f1) (x : Bool) : IsS80 w0 (W.setCell ⟨g, 1, none⟩ (.bool x)) g f0 x := by
  obtain ⟨hb, hg⟩ := h
  exact ⟨by simpa using blk_set hb 1 (.bool x), hg⟩
theorem IsS80.new (w0 W : World) (f0 : ByteArray) (f1 : Bool) (hB : Below w0.heap.size w0 W) : IsS80 w0 (W.alloc (.cells #[.string f0, .bool f1] 80)) W.heap.size f0 f1 := ⟨by simpa using heap_alloc_new W _, hB.size⟩

/-! ### spec_reader_space: function 37 -/
def spec_reader_space.l0 : Nat → ByteArray → Bool → Option (ByteArray × Bool)
  | 0, _, _ => none
  | k + 1, x1000, x1001 => if x1000.toList = ([] : List UInt8) then (some (x1000, x1001)) else (if 0 < (x1000.size : Int) then (if (bt x1000 0) = 32 then (if 1 ≤ (x1000.size : Int) then (spec_reader_space.l0 k (x1000.extract 1 x1000.size) x1001) else (none)) else (if (bt x1000 0) = 9 then (if 1 ≤ (x1000.size : Int) then (spec_reader_space.l0 k (x1000.extract 1 x1000.size) x1001) else (none)) else (if (bt x1000 0) = 10 then (if 1 ≤ (x1000.size : Int) then (spec_reader_space.l0 k (x1000.extract 1 x1000.size) x1001) else (none)) else (if (bt x1000 0) = 13 then (if 1 ≤ (x1000.size : Int) then (spec_reader_space.l0 k (x1000.extract 1 x1000.size) x1001) else (none)) else (some (x1000, x1001)))))) else (none))
def spec_reader_space.f (k : Nat) (s0_0 : ByteArray) (s0_1 : Bool) : Option (ByteArray × Bool) := spec_reader_space.l0 k s0_0 s0_1
set_option maxHeartbeats 8000000 in
set_option maxRecDepth 100000 in
theorem spec_reader_space.calls (k : Nat) (g : Nat) (s0_0 : ByteArray) (s0_1 : Bool) (r1 : ByteArray) (r2 : Bool) (w0 w : World) (hI : IsS80 w0 w g s0_0 s0_1) (hB : Below w0.heap.size w0 w) (h : spec_reader_space.f k s0_0 s0_1 = some (r1, r2)) :
    Calls Tryz.prog 37 #[.pointer (some ⟨g, 0, none⟩)] w fun e w' => e = .returned (.tuple #[]) ∧ IsS80 w0 w' g r1 r2 ∧ Below w0.heap.size w0 w' ∧ KeepBut w w' g none := by
  have HI0 := Aside0.mk hI
  have HK := Aside0.mk (KeepBut.refl w g none)
  have HL := Aside0.mk hB.size
  clear hI
  have HW0 := Aside0.mk hB.size
  have HB := Aside0.mk hB
  clear hB
  have H : (spec_reader_space.l0 k s0_0 s0_1) = some (r1, r2) := h
  clear h
  have H' := Aside0.mk H
  clear H
  go_enter Tryz.func37, Tryz.ntmps37
  go_wp2
  go_loopg [] k (fun kq w' => ∃ (x1000_1 : ByteArray), Aside0 (spec_reader_space.l0 kq x1000_1 s0_1 = some (r1, r2)) ∧ Aside0 (kq ≤ k) ∧ Aside0 (IsS80 w0 w' g x1000_1 s0_1) ∧ Aside0 (KeepBut w w' g none) ∧ Aside0 (Below w0.heap.size w0 w'))
  case atStart => exact ⟨(s0_0), H', ⟨Nat.le_refl _⟩, ⟨by repeat (first | (with_reducible first | exact HI0.out | apply IsS80.alloc | apply IsS80.drewN | apply IsS80.drew | apply IsS80.set_0 | apply IsS80.set_1) | exact HI0.out)⟩, ⟨by repeat (first | (with_reducible first | exact HK.out | apply KeepBut.set_ | apply keep_drewN | apply keep_drew | apply keep_alloc) | exact HK.out)⟩, ⟨by repeat (first | (with_reducible first | exact HB.out | apply below_alloc | apply pw_below_drewN | apply below_drew1 | refine below_set ?_ (IsS80.ge HI0.out)) | exact HB.out)⟩⟩
  case round =>
    clear H'
    obtain ⟨x1000_1, HA, HK1, HI0, HK, HB⟩ := hrel
    cases gk with
    | zero => exact absurd HA.out (by simp [spec_reader_space.l0])
    | succ k1 =>
      have H := HA.out
      clear HA
      simp only [spec_reader_space.l0] at H
      by_cases c2 : x1000_1.toList = ([] : List UInt8)
      · rw [if_pos c2] at H
        have c2b0 : (x1000_1.toList == ([] : List UInt8)) = true := beq_iff_eq.mpr c2
        have c2b1 : (x1000_1.toList != ([] : List UInt8)) = false := bne_eq_false_iff_eq.mpr c2
        clear c2
        simp only [Option.some.injEq, Prod.mk.injEq] at H
        obtain ⟨rfl, rfl⟩ := H
        obtain ⟨HGz3, hgz3⟩ := HI0.out
        have hcz3_0 := cellS80_0 HGz3
        have hcz3_1 := cellS80_1 HGz3
        have hfz3_0 := blk_frozen HGz3 0
        have hfz3_1 := blk_frozen HGz3 1
        clear HGz3 hgz3
        go_wp2
        first | go_end0 | ((try simp only [Exit.inBlock, Exit.then]); refine bodyPost_ret (results_none rfl _ _ _) rfl ?_)
        exact ⟨by first | rfl | (simp [errW_none, errW_some] <;> rfl) | (simp [*, errW_none, errW_some] <;> rfl), by repeat (first | (with_reducible first | exact HI0.out | apply IsS80.alloc | apply IsS80.drewN | apply IsS80.drew | apply IsS80.set_0 | apply IsS80.set_1) | exact HI0.out), by repeat (first | (with_reducible first | exact HB.out | apply below_alloc | apply pw_below_drewN | apply below_drew1 | refine below_set ?_ (IsS80.ge HI0.out)) | exact HB.out), by repeat (first | (with_reducible first | exact HK.out | apply KeepBut.set_ | apply keep_drewN | apply keep_drew | apply keep_alloc) | exact HK.out)⟩
      · rw [if_neg c2] at H
        have c2b0 : (x1000_1.toList == ([] : List UInt8)) = false := beq_eq_false_iff_ne.mpr c2
        have c2b1 : (x1000_1.toList != ([] : List UInt8)) = true := bne_iff_ne.mpr c2
        by_cases c4 : 0 < (x1000_1.size : Int)
        · rw [if_pos c4] at H
          have c4b0 : decide (0 < (x1000_1.size : Int)) = true := decide_eq_true c4
          have c4b1 : decide (0 < x1000_1.size) = true := decide_eq_true (by omega)
          clear c4
          by_cases c6 : (bt x1000_1 0) = 32
          · rw [if_pos c6] at H
            have c6b0 : ((bt x1000_1 0) == 32) = true := beq_iff_eq.mpr c6
            have c6b1 : ((bt x1000_1 0) != 32) = false := bne_eq_false_iff_eq.mpr c6
            clear c6
            by_cases c7 : 1 ≤ (x1000_1.size : Int)
            · rw [if_pos c7] at H
              have c7b0 := eq_true c7
              have c7b1 : decide (1 ≤ (x1000_1.size : Int)) = true := decide_eq_true c7
              clear c7
              have H' := Aside0.mk H
              clear H
              obtain ⟨HGz8, hgz8⟩ := HI0.out
              have hcz8_0 := cellS80_0 HGz8
              have hcz8_1 := cellS80_1 HGz8
              have hfz8_0 := blk_frozen HGz8 0
              have hfz8_1 := blk_frozen HGz8 1
              clear HGz8 hgz8
              have p5 : 0 ≤ (0 : Int) := (by omega)
              have q5 : 0 < x1000_1.size := (by have : (0 : Int) < (x1000_1.size : Int) := of_decide_eq_true (by first | (with_reducible assumption) | assumption); omega)
              have hx5 : ∀ h : 0 < x1000_1.size, ((x1000_1[0]'h).toNat : Int) = bt x1000_1 0 := bt_at x1000_1 0
              clear p5
              have qi5 : (0 < (x1000_1.size : Int)) = True := eq_true (of_decide_eq_true (by first | (with_reducible assumption) | assumption))
              replace q5 := eq_true q5
              go_wp2
              go_roundg k1
              case measure => have := HK1.out; omega
              case rel => exact ⟨(x1000_1.extract 1 x1000_1.size), H', ⟨by have := HK1.out; omega⟩, ⟨by repeat (first | (with_reducible first | exact HI0.out | apply IsS80.alloc | apply IsS80.drewN | apply IsS80.drew | apply IsS80.set_0 | apply IsS80.set_1) | exact HI0.out)⟩, ⟨by repeat (first | (with_reducible first | exact HK.out | apply KeepBut.set_ | apply keep_drewN | apply keep_drew | apply keep_alloc) | exact HK.out)⟩, ⟨by repeat (first | (with_reducible first | exact HB.out | apply below_alloc | apply pw_below_drewN | apply below_drew1 | refine below_set ?_ (IsS80.ge HI0.out)) | exact HB.out)⟩⟩
            · rw [if_neg c7] at H
              exact absurd H (by simp)
          · rw [if_neg c6] at H
            have c6b0 : ((bt x1000_1 0) == 32) = false := beq_eq_false_iff_ne.mpr c6
            have c6b1 : ((bt x1000_1 0) != 32) = true := bne_iff_ne.mpr c6
            by_cases c10 : (bt x1000_1 0) = 9
            · rw [if_pos c10] at H
              have c10b0 : ((bt x1000_1 0) == 9) = true := beq_iff_eq.mpr c10
              have c10b1 : ((bt x1000_1 0) != 9) = false := bne_eq_false_iff_eq.mpr c10
              clear c10
              by_cases c11 : 1 ≤ (x1000_1.size : Int)
              · rw [if_pos c11] at H
                have c11b0 := eq_true c11
                have c11b1 : decide (1 ≤ (x1000_1.size : Int)) = true := decide_eq_true c11
                clear c11
                have H' := Aside0.mk H
                clear H
                obtain ⟨HGz12, hgz12⟩ := HI0.out
                have hcz12_0 := cellS80_0 HGz12
                have hcz12_1 := cellS80_1 HGz12
                have hfz12_0 := blk_frozen HGz12 0
                have hfz12_1 := blk_frozen HGz12 1
                clear HGz12 hgz12
                have p5 : 0 ≤ (0 : Int) := (by omega)
                have q5 : 0 < x1000_1.size := (by have : (0 : Int) < (x1000_1.size : Int) := of_decide_eq_true (by first | (with_reducible assumption) | assumption); omega)
                have hx5 : ∀ h : 0 < x1000_1.size, ((x1000_1[0]'h).toNat : Int) = bt x1000_1 0 := bt_at x1000_1 0
                clear p5
                have qi5 : (0 < (x1000_1.size : Int)) = True := eq_true (of_decide_eq_true (by first | (with_reducible assumption) | assumption))
                replace q5 := eq_true q5
                have p9 : 0 ≤ (0 : Int) := (by omega)
                have q9 : 0 < x1000_1.size := (by have : (0 : Int) < (x1000_1.size : Int) := of_decide_eq_true (by first | (with_reducible assumption) | assumption); omega)
                have hx9 : ∀ h : 0 < x1000_1.size, ((x1000_1[0]'h).toNat : Int) = bt x1000_1 0 := bt_at x1000_1 0
                clear p9
                have qi9 : (0 < (x1000_1.size : Int)) = True := eq_true (of_decide_eq_true (by first | (with_reducible assumption) | assumption))
                replace q9 := eq_true q9
                go_wp2
                go_roundg k1
                case measure => have := HK1.out; omega
                case rel => exact ⟨(x1000_1.extract 1 x1000_1.size), H', ⟨by have := HK1.out; omega⟩, ⟨by repeat (first | (with_reducible first | exact HI0.out | apply IsS80.alloc | apply IsS80.drewN | apply IsS80.drew | apply IsS80.set_0 | apply IsS80.set_1) | exact HI0.out)⟩, ⟨by repeat (first | (with_reducible first | exact HK.out | apply KeepBut.set_ | apply keep_drewN | apply keep_drew | apply keep_alloc) | exact HK.out)⟩, ⟨by repeat (first | (with_reducible first | exact HB.out | apply below_alloc | apply pw_below_drewN | apply below_drew1 | refine below_set ?_ (IsS80.ge HI0.out)) | exact HB.out)⟩⟩
              · rw [if_neg c11] at H
                exact absurd H (by simp)
            · rw [if_neg c10] at H
              have c10b0 : ((bt x1000_1 0) == 9) = false := beq_eq_false_iff_ne.mpr c10
              have c10b1 : ((bt x1000_1 0) != 9) = true := bne_iff_ne.mpr c10
              by_cases c14 : (bt x1000_1 0) = 10
              · rw [if_pos c14] at H
                have c14b0 : ((bt x1000_1 0) == 10) = true := beq_iff_eq.mpr c14
                have c14b1 : ((bt x1000_1 0) != 10) = false := bne_eq_false_iff_eq.mpr c14
                clear c14
                by_cases c15 : 1 ≤ (x1000_1.size : Int)
                · rw [if_pos c15] at H
                  have c15b0 := eq_true c15
                  have c15b1 : decide (1 ≤ (x1000_1.size : Int)) = true := decide_eq_true c15
                  clear c15
                  have H' := Aside0.mk H
                  clear H
                  obtain ⟨HGz16, hgz16⟩ := HI0.out
                  have hcz16_0 := cellS80_0 HGz16
                  have hcz16_1 := cellS80_1 HGz16
                  have hfz16_0 := blk_frozen HGz16 0
                  have hfz16_1 := blk_frozen HGz16 1
                  clear HGz16 hgz16
                  have p5 : 0 ≤ (0 : Int) := (by omega)
                  have q5 : 0 < x1000_1.size := (by have : (0 : Int) < (x1000_1.size : Int) := of_decide_eq_true (by first | (with_reducible assumption) | assumption); omega)
                  have hx5 : ∀ h : 0 < x1000_1.size, ((x1000_1[0]'h).toNat : Int) = bt x1000_1 0 := bt_at x1000_1 0
                  clear p5
                  have qi5 : (0 < (x1000_1.size : Int)) = True := eq_true (of_decide_eq_true (by first | (with_reducible assumption) | assumption))
                  replace q5 := eq_true q5
                  have p9 : 0 ≤ (0 : Int) := (by omega)
                  have q9 : 0 < x1000_1.size := (by have : (0 : Int) < (x1000_1.size : Int) := of_decide_eq_true (by first | (with_reducible assumption) | assumption); omega)
                  have hx9 : ∀ h : 0 < x1000_1.size, ((x1000_1[0]'h).toNat : Int) = bt x1000_1 0 := bt_at x1000_1 0
                  clear p9
                  have qi9 : (0 < (x1000_1.size : Int)) = True := eq_true (of_decide_eq_true (by first | (with_reducible assumption) | assumption))
                  replace q9 := eq_true q9
                  have p13 : 0 ≤ (0 : Int) := (by omega)
                  have q13 : 0 < x1000_1.size := (by have : (0 : Int) < (x1000_1.size : Int) := of_decide_eq_true (by first | (with_reducible assumption) | assumption); omega)
                  have hx13 : ∀ h : 0 < x1000_1.size, ((x1000_1[0]'h).toNat : Int) = bt x1000_1 0 := bt_at x1000_1 0
                  clear p13
                  have qi13 : (0 < (x1000_1.size : Int)) = True := eq_true (of_decide_eq_true (by first | (with_reducible assumption) | assumption))
                  replace q13 := eq_true q13
                  go_wp2
                  go_roundg k1
                  case measure => have := HK1.out; omega
                  case rel => exact ⟨(x1000_1.extract 1 x1000_1.size), H', ⟨by have := HK1.out; omega⟩, ⟨by repeat (first | (with_reducible first | exact HI0.out | apply IsS80.alloc | apply IsS80.drewN | apply IsS80.drew | apply IsS80.set_0 | apply IsS80.set_1) | exact HI0.out)⟩, ⟨by repeat (first | (with_reducible first | exact HK.out | apply KeepBut.set_ | apply keep_drewN | apply keep_drew | apply keep_alloc) | exact HK.out)⟩, ⟨by repeat (first | (with_reducible first | exact HB.out | apply below_alloc | apply pw_below_drewN | apply below_drew1 | refine below_set ?_ (IsS80.ge HI0.out)) | exact HB.out)⟩⟩
                · rw [if_neg c15] at H
                  exact absurd H (by simp)
              · rw [if_neg c14] at H
                have c14b0 : ((bt x1000_1 0) == 10) = false := beq_eq_false_iff_ne.mpr c14
                have c14b1 : ((bt x1000_1 0) != 10) = true := bne_iff_ne.mpr c14
                by_cases c18 : (bt x1000_1 0) = 13
                · rw [if_pos c18] at H
                  have c18b0 : ((bt x1000_1 0) == 13) = true := beq_iff_eq.mpr c18
                  have c18b1 : ((bt x1000_1 0) != 13) = false := bne_eq_false_iff_eq.mpr c18
                  clear c18
                  by_cases c19 : 1 ≤ (x1000_1.size : Int)
                  · rw [if_pos c19] at H
                    have c19b0 := eq_true c19
                    have c19b1 : decide (1 ≤ (x1000_1.size : Int)) = true := decide_eq_true c19
                    clear c19
                    have H' := Aside0.mk H
                    clear H
                    obtain ⟨HGz20, hgz20⟩ := HI0.out
                    have hcz20_0 := cellS80_0 HGz20
                    have hcz20_1 := cellS80_1 HGz20
                    have hfz20_0 := blk_frozen HGz20 0
                    have hfz20_1 := blk_frozen HGz20 1
                    clear HGz20 hgz20
                    have p5 : 0 ≤ (0 : Int) := (by omega)
                    have q5 : 0 < x1000_1.size := (by have : (0 : Int) < (x1000_1.size : Int) := of_decide_eq_true (by first | (with_reducible assumption) | assumption); omega)
                    have hx5 : ∀ h : 0 < x1000_1.size, ((x1000_1[0]'h).toNat : Int) = bt x1000_1 0 := bt_at x1000_1 0
                    clear p5
                    have qi5 : (0 < (x1000_1.size : Int)) = True := eq_true (of_decide_eq_true (by first | (with_reducible assumption) | assumption))
                    replace q5 := eq_true q5
                    have p9 : 0 ≤ (0 : Int) := (by omega)
                    have q9 : 0 < x1000_1.size := (by have : (0 : Int) < (x1000_1.size : Int) := of_decide_eq_true (by first | (with_reducible assumption) | assumption); omega)
                    have hx9 : ∀ h : 0 < x1000_1.size, ((x1000_1[0]'h).toNat : Int) = bt x1000_1 0 := bt_at x1000_1 0
                    clear p9
                    have qi9 : (0 < (x1000_1.size : Int)) = True := eq_true (of_decide_eq_true (by first | (with_reducible assumption) | assumption))
                    replace q9 := eq_true q9
                    have p13 : 0 ≤ (0 : Int) := (by omega)
                    have q13 : 0 < x1000_1.size := (by have : (0 : Int) < (x1000_1.size : Int) := of_decide_eq_true (by first | (with_reducible assumption) | assumption); omega)
                    have hx13 : ∀ h : 0 < x1000_1.size, ((x1000_1[0]'h).toNat : Int) = bt x1000_1 0 := bt_at x1000_1 0
                    clear p13
                    have qi13 : (0 < (x1000_1.size : Int)) = True := eq_true (of_decide_eq_true (by first | (with_reducible assumption) | assumption))
                    replace q13 := eq_true q13
                    have p17 : 0 ≤ (0 : Int) := (by omega)
                    have q17 : 0 < x1000_1.size := (by have : (0 : Int) < (x1000_1.size : Int) := of_decide_eq_true (by first | (with_reducible assumption) | assumption); omega)
                    have hx17 : ∀ h : 0 < x1000_1.size, ((x1000_1[0]'h).toNat : Int) = bt x1000_1 0 := bt_at x1000_1 0
                    clear p17
                    have qi17 : (0 < (x1000_1.size : Int)) = True := eq_true (of_decide_eq_true (by first | (with_reducible assumption) | assumption))
                    replace q17 := eq_true q17
                    go_wp2
                    go_roundg k1
                    case measure => have := HK1.out; omega
                    case rel => exact ⟨(x1000_1.extract 1 x1000_1.size), H', ⟨by have := HK1.out; omega⟩, ⟨by repeat (first | (with_reducible first | exact HI0.out | apply IsS80.alloc | apply IsS80.drewN | apply IsS80.drew | apply IsS80.set_0 | apply IsS80.set_1) | exact HI0.out)⟩, ⟨by repeat (first | (with_reducible first | exact HK.out | apply KeepBut.set_ | apply keep_drewN | apply keep_drew | apply keep_alloc) | exact HK.out)⟩, ⟨by repeat (first | (with_reducible first | exact HB.out | apply below_alloc | apply pw_below_drewN | apply below_drew1 | refine below_set ?_ (IsS80.ge HI0.out)) | exact HB.out)⟩⟩
                  · rw [if_neg c19] at H
                    exact absurd H (by simp)
                · rw [if_neg c18] at H
                  have c18b0 : ((bt x1000_1 0) == 13) = false := beq_eq_false_iff_ne.mpr c18
                  have c18b1 : ((bt x1000_1 0) != 13) = true := bne_iff_ne.mpr c18
                  simp only [Option.some.injEq, Prod.mk.injEq] at H
                  obtain ⟨rfl, rfl⟩ := H
                  obtain ⟨HGz21, hgz21⟩ := HI0.out
                  have hcz21_0 := cellS80_0 HGz21
                  have hcz21_1 := cellS80_1 HGz21
                  have hfz21_0 := blk_frozen HGz21 0
                  have hfz21_1 := blk_frozen HGz21 1
                  clear HGz21 hgz21
                  have p5 : 0 ≤ (0 : Int) := (by omega)
                  have q5 : 0 < x1000_1.size := (by have : (0 : Int) < (x1000_1.size : Int) := of_decide_eq_true (by first | (with_reducible assumption) | assumption); omega)
                  have hx5 : ∀ h : 0 < x1000_1.size, ((x1000_1[0]'h).toNat : Int) = bt x1000_1 0 := bt_at x1000_1 0
                  clear p5
                  have qi5 : (0 < (x1000_1.size : Int)) = True := eq_true (of_decide_eq_true (by first | (with_reducible assumption) | assumption))
                  replace q5 := eq_true q5
                  have p9 : 0 ≤ (0 : Int) := (by omega)
                  have q9 : 0 < x1000_1.size := (by have : (0 : Int) < (x1000_1.size : Int) := of_decide_eq_true (by first | (with_reducible assumption) | assumption); omega)
                  have hx9 : ∀ h : 0 < x1000_1.size, ((x1000_1[0]'h).toNat : Int) = bt x1000_1 0 := bt_at x1000_1 0
                  clear p9
                  have qi9 : (0 < (x1000_1.size : Int)) = True := eq_true (of_decide_eq_true (by first | (with_reducible assumption) | assumption))
                  replace q9 := eq_true q9
                  have p13 : 0 ≤ (0 : Int) := (by omega)
                  have q13 : 0 < x1000_1.size := (by have : (0 : Int) < (x1000_1.size : Int) := of_decide_eq_true (by first | (with_reducible assumption) | assumption); omega)
                  have hx13 : ∀ h : 0 < x1000_1.size, ((x1000_1[0]'h).toNat : Int) = bt x1000_1 0 := bt_at x1000_1 0
                  clear p13
                  have qi13 : (0 < (x1000_1.size : Int)) = True := eq_true (of_decide_eq_true (by first | (with_reducible assumption) | assumption))
                  replace q13 := eq_true q13
                  have p17 : 0 ≤ (0 : Int) := (by omega)
                  have q17 : 0 < x1000_1.size := (by have : (0 : Int) < (x1000_1.size : Int) := of_decide_eq_true (by first | (with_reducible assumption) | assumption); omega)
                  have hx17 : ∀ h : 0 < x1000_1.size, ((x1000_1[0]'h).toNat : Int) = bt x1000_1 0 := bt_at x1000_1 0
                  clear p17
                  have qi17 : (0 < (x1000_1.size : Int)) = True := eq_true (of_decide_eq_true (by first | (with_reducible assumption) | assumption))
                  replace q17 := eq_true q17
                  go_wp2
                  first | go_end0 | ((try simp only [Exit.inBlock, Exit.then]); refine bodyPost_ret (results_none rfl _ _ _) rfl ?_)
                  exact ⟨by first | rfl | (simp [errW_none, errW_some] <;> rfl) | (simp [*, errW_none, errW_some] <;> rfl), by repeat (first | (with_reducible first | exact HI0.out | apply IsS80.alloc | apply IsS80.drewN | apply IsS80.drew | apply IsS80.set_0 | apply IsS80.set_1) | exact HI0.out), by repeat (first | (with_reducible first | exact HB.out | apply below_alloc | apply pw_below_drewN | apply below_drew1 | refine below_set ?_ (IsS80.ge HI0.out)) | exact HB.out), by repeat (first | (with_reducible first | exact HK.out | apply KeepBut.set_ | apply keep_drewN | apply keep_drew | apply keep_alloc) | exact HK.out)⟩
        · rw [if_neg c4] at H
          exact absurd H (by simp)

end Go.Proofs.YtkihaebaccdjdaaGreatDoor.PX
