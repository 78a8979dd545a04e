import Derived.Test.YtkihaebaccdjdaaGreatDoorJ33
import Derived.Test.YtkihaebaccdjdaaGreatDoorJ4
namespace Go.Proofs.YtkihaebaccdjdaaGreatDoor.PX
open Go.RowKit Go.Proofs.YtkihaebaccdjdaaGreatDoorW.PrintWords Go.Proofs.YtkihaebaccdjdaaGreatDoorW.PrintLast Go.Proofs.YtkihaebaccdjdaaGreatDoorW.PrintMore
attribute [local go_sem] max2_int min2_int max_two min_two max_three min_three max_four min_four   -- for this text's walks alone
set_option linter.unusedVariables false
set_option linter.unusedSimpArgs false

abbrev sg64 : ByteArray := ⟨#[65, 66, 67, 68, 69, 70, 71, 72, 73, 74, 75, 76, 77, 78, 79, 80, 81, 82, 83, 84, 85, 86, 87, 88, 89, 90, 97, 98, 99, 100, 101, 102, 103, 104, 105, 106, 107, 108, 109, 110, 111, 112, 113, 114, 115, 116, 117, 118, 119, 120, 121, 122, 48, 49, 50, 51, 52, 53, 54, 55, 56, 57, 43, 47]⟩
/-! ### smjson_b64: function 196 -/
def smjson_b64.l0 : Nat → List Int → List Int → Option (ByteArray)
  | 0, _, _ => none
  | k + 1, x0, x3 => if (x0.length : Int) ≥ 3 then (if 0 < (x0.length : Int) then (if 1 < (x0.length : Int) then (if 2 < (x0.length : Int) then (if 0 ≤ (Go.bits .and .u64 ((Go.bits .or .u64 (Go.bits .or .u64 (IntKind.u64.wrap ((IntKind.u64.wrap (rd x0 0)) * 65536)) (IntKind.u64.wrap ((IntKind.u64.wrap (rd x0 1)) * 256))) (IntKind.u64.wrap (rd x0 2))) / 262144) 63) then (if (Go.bits .and .u64 ((Go.bits .or .u64 (Go.bits .or .u64 (IntKind.u64.wrap ((IntKind.u64.wrap (rd x0 0)) * 65536)) (IntKind.u64.wrap ((IntKind.u64.wrap (rd x0 1)) * 256))) (IntKind.u64.wrap (rd x0 2))) / 262144) 63) < 64 then (if 0 ≤ (Go.bits .and .u64 ((Go.bits .or .u64 (Go.bits .or .u64 (IntKind.u64.wrap ((IntKind.u64.wrap (rd x0 0)) * 65536)) (IntKind.u64.wrap ((IntKind.u64.wrap (rd x0 1)) * 256))) (IntKind.u64.wrap (rd x0 2))) / 4096) 63) then (if (Go.bits .and .u64 ((Go.bits .or .u64 (Go.bits .or .u64 (IntKind.u64.wrap ((IntKind.u64.wrap (rd x0 0)) * 65536)) (IntKind.u64.wrap ((IntKind.u64.wrap (rd x0 1)) * 256))) (IntKind.u64.wrap (rd x0 2))) / 4096) 63) < 64 then (if 0 ≤ (Go.bits .and .u64 ((Go.bits .or .u64 (Go.bits .or .u64 (IntKind.u64.wrap ((IntKind.u64.wrap (rd x0 0)) * 65536)) (IntKind.u64.wrap ((IntKind.u64.wrap (rd x0 1)) * 256))) (IntKind.u64.wrap (rd x0 2))) / 64) 63) then (if (Go.bits .and .u64 ((Go.bits .or .u64 (Go.bits .or .u64 (IntKind.u64.wrap ((IntKind.u64.wrap (rd x0 0)) * 65536)) (IntKind.u64.wrap ((IntKind.u64.wrap (rd x0 1)) * 256))) (IntKind.u64.wrap (rd x0 2))) / 64) 63) < 64 then (if 0 ≤ (Go.bits .and .u64 (Go.bits .or .u64 (Go.bits .or .u64 (IntKind.u64.wrap ((IntKind.u64.wrap (rd x0 0)) * 65536)) (IntKind.u64.wrap ((IntKind.u64.wrap (rd x0 1)) * 256))) (IntKind.u64.wrap (rd x0 2))) 63) then (if (Go.bits .and .u64 (Go.bits .or .u64 (Go.bits .or .u64 (IntKind.u64.wrap ((IntKind.u64.wrap (rd x0 0)) * 65536)) (IntKind.u64.wrap ((IntKind.u64.wrap (rd x0 1)) * 256))) (IntKind.u64.wrap (rd x0 2))) 63) < 64 then ((some (([bt sg64 (Go.bits .and .u64 ((Go.bits .or .u64 (Go.bits .or .u64 (IntKind.u64.wrap ((IntKind.u64.wrap (rd x0 0)) * 65536)) (IntKind.u64.wrap ((IntKind.u64.wrap (rd x0 1)) * 256))) (IntKind.u64.wrap (rd x0 2))) / 262144) 63), bt sg64 (Go.bits .and .u64 ((Go.bits .or .u64 (Go.bits .or .u64 (IntKind.u64.wrap ((IntKind.u64.wrap (rd x0 0)) * 65536)) (IntKind.u64.wrap ((IntKind.u64.wrap (rd x0 1)) * 256))) (IntKind.u64.wrap (rd x0 2))) / 4096) 63), bt sg64 (Go.bits .and .u64 ((Go.bits .or .u64 (Go.bits .or .u64 (IntKind.u64.wrap ((IntKind.u64.wrap (rd x0 0)) * 65536)) (IntKind.u64.wrap ((IntKind.u64.wrap (rd x0 1)) * 256))) (IntKind.u64.wrap (rd x0 2))) / 64) 63), bt sg64 (Go.bits .and .u64 (Go.bits .or .u64 (Go.bits .or .u64 (IntKind.u64.wrap ((IntKind.u64.wrap (rd x0 0)) * 65536)) (IntKind.u64.wrap ((IntKind.u64.wrap (rd x0 1)) * 256))) (IntKind.u64.wrap (rd x0 2))) 63)] : List Int) : List Int)).bind fun y228 => (if x3.length + y228.length < 140737488355328 then (if 3 ≤ (x0.length : Int) then (smjson_b64.l0 k (x0.drop 3) (x3 ++ y228)) else (none)) else (none))) else (none)) else (none)) else (none)) else (none)) else (none)) else (none)) else (none)) else (none)) else (none)) else (none)) else (none)) else (if (x0.length : Int) = 1 then (if 0 < (x0.length : Int) then (if 0 ≤ (Go.bits .and .u64 ((IntKind.u64.wrap ((IntKind.u64.wrap (rd x0 0)) * 65536)) / 262144) 63) then (if (Go.bits .and .u64 ((IntKind.u64.wrap ((IntKind.u64.wrap (rd x0 0)) * 65536)) / 262144) 63) < 64 then (if 0 ≤ (Go.bits .and .u64 ((IntKind.u64.wrap ((IntKind.u64.wrap (rd x0 0)) * 65536)) / 4096) 63) then (if (Go.bits .and .u64 ((IntKind.u64.wrap ((IntKind.u64.wrap (rd x0 0)) * 65536)) / 4096) 63) < 64 then ((some (([bt sg64 (Go.bits .and .u64 ((IntKind.u64.wrap ((IntKind.u64.wrap (rd x0 0)) * 65536)) / 262144) 63), bt sg64 (Go.bits .and .u64 ((IntKind.u64.wrap ((IntKind.u64.wrap (rd x0 0)) * 65536)) / 4096) 63), 61, 61] : List Int) : List Int)).bind fun y240 => (if x3.length + y240.length < 140737488355328 then (some (strOfNums (x3 ++ y240))) else (none))) else (none)) else (none)) else (none)) else (none)) else (none)) else (if (x0.length : Int) = 2 then (if 0 < (x0.length : Int) then (if 1 < (x0.length : Int) then (if 0 ≤ (Go.bits .and .u64 ((Go.bits .or .u64 (IntKind.u64.wrap ((IntKind.u64.wrap (rd x0 0)) * 65536)) (IntKind.u64.wrap ((IntKind.u64.wrap (rd x0 1)) * 256))) / 262144) 63) then (if (Go.bits .and .u64 ((Go.bits .or .u64 (IntKind.u64.wrap ((IntKind.u64.wrap (rd x0 0)) * 65536)) (IntKind.u64.wrap ((IntKind.u64.wrap (rd x0 1)) * 256))) / 262144) 63) < 64 then (if 0 ≤ (Go.bits .and .u64 ((Go.bits .or .u64 (IntKind.u64.wrap ((IntKind.u64.wrap (rd x0 0)) * 65536)) (IntKind.u64.wrap ((IntKind.u64.wrap (rd x0 1)) * 256))) / 4096) 63) then (if (Go.bits .and .u64 ((Go.bits .or .u64 (IntKind.u64.wrap ((IntKind.u64.wrap (rd x0 0)) * 65536)) (IntKind.u64.wrap ((IntKind.u64.wrap (rd x0 1)) * 256))) / 4096) 63) < 64 then (if 0 ≤ (Go.bits .and .u64 ((Go.bits .or .u64 (IntKind.u64.wrap ((IntKind.u64.wrap (rd x0 0)) * 65536)) (IntKind.u64.wrap ((IntKind.u64.wrap (rd x0 1)) * 256))) / 64) 63) then (if (Go.bits .and .u64 ((Go.bits .or .u64 (IntKind.u64.wrap ((IntKind.u64.wrap (rd x0 0)) * 65536)) (IntKind.u64.wrap ((IntKind.u64.wrap (rd x0 1)) * 256))) / 64) 63) < 64 then ((some (([bt sg64 (Go.bits .and .u64 ((Go.bits .or .u64 (IntKind.u64.wrap ((IntKind.u64.wrap (rd x0 0)) * 65536)) (IntKind.u64.wrap ((IntKind.u64.wrap (rd x0 1)) * 256))) / 262144) 63), bt sg64 (Go.bits .and .u64 ((Go.bits .or .u64 (IntKind.u64.wrap ((IntKind.u64.wrap (rd x0 0)) * 65536)) (IntKind.u64.wrap ((IntKind.u64.wrap (rd x0 1)) * 256))) / 4096) 63), bt sg64 (Go.bits .and .u64 ((Go.bits .or .u64 (IntKind.u64.wrap ((IntKind.u64.wrap (rd x0 0)) * 65536)) (IntKind.u64.wrap ((IntKind.u64.wrap (rd x0 1)) * 256))) / 64) 63), 61] : List Int) : List Int)).bind fun y248 => (if x3.length + y248.length < 140737488355328 then (some (strOfNums (x3 ++ y248))) else (none))) else (none)) else (none)) else (none)) else (none)) else (none)) else (none)) else (none)) else (none)) else (some (strOfNums x3))))
def smjson_b64.f (k : Nat) (l0 : List Int) : Option (ByteArray) := smjson_b64.l0 k l0 ([] : List Int)
def smjson_b64.T3 : Bool × List (List Nat × List Nat) := (true, [([], []), ([0], [0]), ([1], [1]), ([2], [2]), ([3], [3]), ([], []), ([5], [5]), ([6], [6]), ([7], [7]), ([8], [8]), ([4, 9], [4, 9]), ([], []), ([11], [11]), ([12], [12]), ([13], [13]), ([10, 14], [10, 14]), ([15, 0, 1, 2, 3, 4, 5, 6, 7, 8, 9, 10, 11, 12, 13, 14, 15], [15])])
def smjson_b64.B3 : List Nat := [0, 1, 3, 7, 15, 0, 32, 96, 224, 480, 1023, 0, 2048, 6144, 14336, 32767, 65535]
theorem smjson_b64.tab3 : rtab .any (opsOf Tryz.f196 3) = smjson_b64.T3 := by kernel_rfl
theorem smjson_b64.bits3 : waitsOk smjson_b64.T3.2 smjson_b64.B3 = true := by kernel_rfl
def smjson_b64.T4 : Bool × List (List Nat × List Nat) := (true, [([], []), ([], []), ([1], [1]), ([2], [2]), ([3], [3]), ([], []), ([5], [5]), ([6], [6]), ([7], [7]), ([], []), ([9], [9]), ([10], [10]), ([11], [11]), ([], []), ([13], [13]), ([14], [14]), ([4, 8, 12, 15], [4, 8, 12, 15]), ([0, 16], [0, 16]), ([17, 17, 0, 1, 2, 3, 4, 5, 6, 7, 8, 9, 10, 11, 12, 13, 14, 15, 16, 17], [0, 17])])
def smjson_b64.B4 : List Nat := [0, 0, 2, 6, 14, 0, 32, 96, 224, 0, 512, 1536, 3584, 0, 8192, 24576, 65534, 131071, 262143]
theorem smjson_b64.tab4 : rtab .any (opsOf Tryz.f196 4) = smjson_b64.T4 := by kernel_rfl
theorem smjson_b64.bits4 : waitsOk smjson_b64.T4.2 smjson_b64.B4 = true := by kernel_rfl
def smjson_b64.T9 : Bool × List (List Nat × List Nat) := (true, [([], []), ([], []), ([1], [1]), ([2], [2]), ([3], [3]), ([], []), ([5], [5]), ([6], [6]), ([7], [7]), ([4, 8], [4, 8]), ([0, 9], [0, 9]), ([10, 10, 0, 1, 2, 3, 4, 5, 6, 7, 8, 9, 10], [0, 10])])
def smjson_b64.B9 : List Nat := [0, 0, 2, 6, 14, 0, 32, 96, 224, 510, 1023, 2047]
theorem smjson_b64.tab9 : rtab .any (opsOf Tryz.f196 9) = smjson_b64.T9 := by kernel_rfl
theorem smjson_b64.bits9 : waitsOk smjson_b64.T9.2 smjson_b64.B9 = true := by kernel_rfl
def smjson_b64.T11 : Bool × List (List Nat × List Nat) := (true, [([], []), ([0], [0]), ([1], [1]), ([2], [2]), ([3], [3]), ([], []), ([5], [5]), ([6], [6]), ([7], [7]), ([8], [8]), ([4, 9], [4, 9]), ([10, 0, 1, 2, 3, 4, 5, 6, 7, 8, 9, 10], [10])])
def smjson_b64.B11 : List Nat := [0, 1, 3, 7, 15, 0, 32, 96, 224, 480, 1023, 2047]
theorem smjson_b64.tab11 : rtab .any (opsOf Tryz.f196 11) = smjson_b64.T11 := by kernel_rfl
theorem smjson_b64.bits11 : waitsOk smjson_b64.T11.2 smjson_b64.B11 = true := by kernel_rfl
def smjson_b64.T12 : Bool × List (List Nat × List Nat) := (true, [([], []), ([], []), ([1], [1]), ([2], [2]), ([3], [3]), ([], []), ([5], [5]), ([6], [6]), ([7], [7]), ([], []), ([9], [9]), ([10], [10]), ([11], [11]), ([4, 8, 12], [4, 8, 12]), ([0, 13], [0, 13]), ([14, 14, 0, 1, 2, 3, 4, 5, 6, 7, 8, 9, 10, 11, 12, 13, 14], [0, 14])])
def smjson_b64.B12 : List Nat := [0, 0, 2, 6, 14, 0, 32, 96, 224, 0, 512, 1536, 3584, 8190, 16383, 32767]
theorem smjson_b64.tab12 : rtab .any (opsOf Tryz.f196 12) = smjson_b64.T12 := by kernel_rfl
theorem smjson_b64.bits12 : waitsOk smjson_b64.T12.2 smjson_b64.B12 = true := by kernel_rfl
set_option maxHeartbeats 8000000 in
set_option maxRecDepth 100000 in
theorem smjson_b64.calls (k : Nat) (P0_ : Nat → Prop) (A0 : Option Addr) (c0 : Nat) (l0 : List Int) (r : ByteArray) (w : World) (hs0 : Kd.V (Kd.int .u8) 5 w w.heap.size (fun k_ => P0_ k_) (.slice A0 l0.length c0) l0) (h : smjson_b64.f k l0 = some r) :
    Calls Tryz.prog 196 #[.slice A0 l0.length c0] w fun e w' => e = .returned (.string r) ∧ Below w.heap.size w w' := by
  have HO0 := Aside0.mk (show Kd.V (Kd.int .u8) 5 w w.heap.size (fun k_ => (P0_ k_ ∨ w.heap.size ≤ k_)) (.slice A0 l0.length c0) l0 from Kd.V_mono hs0 (fun k_ hk => .inl hk))
  have HB := Aside0.mk (Below.refl w.heap.size w)
  have H : (smjson_b64.l0 k l0 ([] : List Int)) = some r := h
  clear h
  have H' := Aside0.mk H
  clear H
  go_enter Tryz.func196, Tryz.ntmps196
  go_wp2
  go_loopg [0, 3] k (fun kq v0 v3 w' => ∃ (x0_1 : List Int) (x3_1 : List Int), Aside0 (smjson_b64.l0 kq x0_1 x3_1 = some r) ∧ Aside0 (kq ≤ k) ∧ Aside0 (Kd.V (Kd.int .u8) 5 w' w.heap.size (fun k_ => (P0_ k_ ∨ w.heap.size ≤ k_) ∧ some k_ ≠ (v3 : Value).ownBlock) v0 x0_1) ∧ Aside0 (Kd.R (Kd.int .u8) 5 w' w.heap.size (fun k_ => (w.heap.size ≤ k_)) v3 x3_1) ∧ Aside0 (Below w.heap.size w w'))
  case atStart => exact ⟨(l0), (([] : List Int)), H', ⟨Nat.le_refl _⟩, ⟨by (with_reducible repeat (first | apply Kd.V_alloc | apply Kd.V_drewN | apply Kd.V_drew)); exact Kd.V_mono HO0.out (fun _ hk => ⟨hk, (by simp [Value.ownBlock])⟩)⟩, ⟨by first | exact Kd.R_nil _ _ _ _ _ | exact Kd.N_nil _ _ _ _ _ | exact Kd.V_nil _ _ _ _ _ | exact Kd.Q_nil _ _ _ _ _ | exact Kd.S_nil _ _ _ _ _⟩, ⟨by repeat (first | (with_reducible first | exact HB.out | apply below_alloc | apply pw_below_drewN | apply below_drew1) | exact HB.out)⟩⟩
  case round =>
    clear H'
    try clear c1
    obtain ⟨x0_1, x3_1, HA, HK1, HO_0, HO_3, HB⟩ := hrel
    cases gk with
    | zero => exact absurd HA.out (by simp [smjson_b64.l0])
    | succ k1 =>
      have H := HA.out
      clear HA
      simp only [smjson_b64.l0] at H
      by_cases c2 : (x0_1.length : Int) ≥ 3
      · rw [if_pos c2] at H
        have c2b0 : decide (3 ≤ (x0_1.length : Int)) = true := decide_eq_true c2
        have c2b1 : decide (3 ≤ x0_1.length) = true := decide_eq_true (by omega)
        clear c2
        by_cases c3 : 0 < (x0_1.length : Int)
        · rw [if_pos c3] at H
          have c3b0 : decide (0 < (x0_1.length : Int)) = true := decide_eq_true c3
          have c3b1 : decide (0 < x0_1.length) = true := decide_eq_true (by omega)
          clear c3
          by_cases c4 : 1 < (x0_1.length : Int)
          · rw [if_pos c4] at H
            have c4b0 : decide (1 < (x0_1.length : Int)) = true := decide_eq_true c4
            have c4b1 : decide (1 < x0_1.length) = true := decide_eq_true (by omega)
            clear c4
            by_cases c5 : 2 < (x0_1.length : Int)
            · rw [if_pos c5] at H
              have c5b0 : decide (2 < (x0_1.length : Int)) = true := decide_eq_true c5
              have c5b1 : decide (2 < x0_1.length) = true := decide_eq_true (by omega)
              clear c5
              obtain ⟨ji6, hji6⟩ : ∃ j_ : Int, (Go.bits .and .u64 ((Go.bits .or .u64 (Go.bits .or .u64 (IntKind.u64.wrap ((IntKind.u64.wrap (rd x0_1 0)) * 65536)) (IntKind.u64.wrap ((IntKind.u64.wrap (rd x0_1 1)) * 256))) (IntKind.u64.wrap (rd x0_1 2))) / 262144) 63) = j_ := ⟨_, rfl⟩
              replace H : (if 0 ≤ (ji6) then (if (ji6) < 64 then (if 0 ≤ (Go.bits .and .u64 ((Go.bits .or .u64 (Go.bits .or .u64 (IntKind.u64.wrap ((IntKind.u64.wrap (rd x0_1 0)) * 65536)) (IntKind.u64.wrap ((IntKind.u64.wrap (rd x0_1 1)) * 256))) (IntKind.u64.wrap (rd x0_1 2))) / 4096) 63) then (if (Go.bits .and .u64 ((Go.bits .or .u64 (Go.bits .or .u64 (IntKind.u64.wrap ((IntKind.u64.wrap (rd x0_1 0)) * 65536)) (IntKind.u64.wrap ((IntKind.u64.wrap (rd x0_1 1)) * 256))) (IntKind.u64.wrap (rd x0_1 2))) / 4096) 63) < 64 then (if 0 ≤ (Go.bits .and .u64 ((Go.bits .or .u64 (Go.bits .or .u64 (IntKind.u64.wrap ((IntKind.u64.wrap (rd x0_1 0)) * 65536)) (IntKind.u64.wrap ((IntKind.u64.wrap (rd x0_1 1)) * 256))) (IntKind.u64.wrap (rd x0_1 2))) / 64) 63) then (if (Go.bits .and .u64 ((Go.bits .or .u64 (Go.bits .or .u64 (IntKind.u64.wrap ((IntKind.u64.wrap (rd x0_1 0)) * 65536)) (IntKind.u64.wrap ((IntKind.u64.wrap (rd x0_1 1)) * 256))) (IntKind.u64.wrap (rd x0_1 2))) / 64) 63) < 64 then (if 0 ≤ (Go.bits .and .u64 (Go.bits .or .u64 (Go.bits .or .u64 (IntKind.u64.wrap ((IntKind.u64.wrap (rd x0_1 0)) * 65536)) (IntKind.u64.wrap ((IntKind.u64.wrap (rd x0_1 1)) * 256))) (IntKind.u64.wrap (rd x0_1 2))) 63) then (if (Go.bits .and .u64 (Go.bits .or .u64 (Go.bits .or .u64 (IntKind.u64.wrap ((IntKind.u64.wrap (rd x0_1 0)) * 65536)) (IntKind.u64.wrap ((IntKind.u64.wrap (rd x0_1 1)) * 256))) (IntKind.u64.wrap (rd x0_1 2))) 63) < 64 then ((some (([bt sg64 (ji6), bt sg64 (Go.bits .and .u64 ((Go.bits .or .u64 (Go.bits .or .u64 (IntKind.u64.wrap ((IntKind.u64.wrap (rd x0_1 0)) * 65536)) (IntKind.u64.wrap ((IntKind.u64.wrap (rd x0_1 1)) * 256))) (IntKind.u64.wrap (rd x0_1 2))) / 4096) 63), bt sg64 (Go.bits .and .u64 ((Go.bits .or .u64 (Go.bits .or .u64 (IntKind.u64.wrap ((IntKind.u64.wrap (rd x0_1 0)) * 65536)) (IntKind.u64.wrap ((IntKind.u64.wrap (rd x0_1 1)) * 256))) (IntKind.u64.wrap (rd x0_1 2))) / 64) 63), bt sg64 (Go.bits .and .u64 (Go.bits .or .u64 (Go.bits .or .u64 (IntKind.u64.wrap ((IntKind.u64.wrap (rd x0_1 0)) * 65536)) (IntKind.u64.wrap ((IntKind.u64.wrap (rd x0_1 1)) * 256))) (IntKind.u64.wrap (rd x0_1 2))) 63)] : List Int) : List Int)).bind fun y228 => (if x3_1.length + y228.length < 140737488355328 then (if 3 ≤ (x0_1.length : Int) then (smjson_b64.l0 k1 (x0_1.drop 3) (x3_1 ++ y228)) else (none)) else (none))) else (none)) else (none)) else (none)) else (none)) else (none)) else (none)) else (none)) else (none)) = some r := by first | (rw [hji6] at H; exact H) | (simp only [hji6] at H ⊢; exact H)
              by_cases c7 : 0 ≤ (ji6)
              · rw [if_pos c7] at H
                have c7b0 : decide (0 ≤ (ji6)) = true := decide_eq_true c7
                clear c7
                by_cases c8 : (ji6) < 64
                · rw [if_pos c8] at H
                  have c8b0 : decide ((ji6) < 64) = true := decide_eq_true c8
                  clear c8
                  obtain ⟨ji10, hji10⟩ : ∃ j_ : Int, (Go.bits .and .u64 ((Go.bits .or .u64 (Go.bits .or .u64 (IntKind.u64.wrap ((IntKind.u64.wrap (rd x0_1 0)) * 65536)) (IntKind.u64.wrap ((IntKind.u64.wrap (rd x0_1 1)) * 256))) (IntKind.u64.wrap (rd x0_1 2))) / 4096) 63) = j_ := ⟨_, rfl⟩
                  replace H : (if 0 ≤ (ji10) then (if (ji10) < 64 then (if 0 ≤ (Go.bits .and .u64 ((Go.bits .or .u64 (Go.bits .or .u64 (IntKind.u64.wrap ((IntKind.u64.wrap (rd x0_1 0)) * 65536)) (IntKind.u64.wrap ((IntKind.u64.wrap (rd x0_1 1)) * 256))) (IntKind.u64.wrap (rd x0_1 2))) / 64) 63) then (if (Go.bits .and .u64 ((Go.bits .or .u64 (Go.bits .or .u64 (IntKind.u64.wrap ((IntKind.u64.wrap (rd x0_1 0)) * 65536)) (IntKind.u64.wrap ((IntKind.u64.wrap (rd x0_1 1)) * 256))) (IntKind.u64.wrap (rd x0_1 2))) / 64) 63) < 64 then (if 0 ≤ (Go.bits .and .u64 (Go.bits .or .u64 (Go.bits .or .u64 (IntKind.u64.wrap ((IntKind.u64.wrap (rd x0_1 0)) * 65536)) (IntKind.u64.wrap ((IntKind.u64.wrap (rd x0_1 1)) * 256))) (IntKind.u64.wrap (rd x0_1 2))) 63) then (if (Go.bits .and .u64 (Go.bits .or .u64 (Go.bits .or .u64 (IntKind.u64.wrap ((IntKind.u64.wrap (rd x0_1 0)) * 65536)) (IntKind.u64.wrap ((IntKind.u64.wrap (rd x0_1 1)) * 256))) (IntKind.u64.wrap (rd x0_1 2))) 63) < 64 then ((some (([bt sg64 (ji6), bt sg64 (ji10), bt sg64 (Go.bits .and .u64 ((Go.bits .or .u64 (Go.bits .or .u64 (IntKind.u64.wrap ((IntKind.u64.wrap (rd x0_1 0)) * 65536)) (IntKind.u64.wrap ((IntKind.u64.wrap (rd x0_1 1)) * 256))) (IntKind.u64.wrap (rd x0_1 2))) / 64) 63), bt sg64 (Go.bits .and .u64 (Go.bits .or .u64 (Go.bits .or .u64 (IntKind.u64.wrap ((IntKind.u64.wrap (rd x0_1 0)) * 65536)) (IntKind.u64.wrap ((IntKind.u64.wrap (rd x0_1 1)) * 256))) (IntKind.u64.wrap (rd x0_1 2))) 63)] : List Int) : List Int)).bind fun y228 => (if x3_1.length + y228.length < 140737488355328 then (if 3 ≤ (x0_1.length : Int) then (smjson_b64.l0 k1 (x0_1.drop 3) (x3_1 ++ y228)) else (none)) else (none))) else (none)) else (none)) else (none)) else (none)) else (none)) else (none)) = some r := by first | (rw [hji10] at H; exact H) | (simp only [hji10] at H ⊢; exact H)
                  by_cases c11 : 0 ≤ (ji10)
                  · rw [if_pos c11] at H
                    have c11b0 : decide (0 ≤ (ji10)) = true := decide_eq_true c11
                    clear c11
                    by_cases c12 : (ji10) < 64
                    · rw [if_pos c12] at H
                      have c12b0 : decide ((ji10) < 64) = true := decide_eq_true c12
                      clear c12
                      obtain ⟨ji14, hji14⟩ : ∃ j_ : Int, (Go.bits .and .u64 ((Go.bits .or .u64 (Go.bits .or .u64 (IntKind.u64.wrap ((IntKind.u64.wrap (rd x0_1 0)) * 65536)) (IntKind.u64.wrap ((IntKind.u64.wrap (rd x0_1 1)) * 256))) (IntKind.u64.wrap (rd x0_1 2))) / 64) 63) = j_ := ⟨_, rfl⟩
                      replace H : (if 0 ≤ (ji14) then (if (ji14) < 64 then (if 0 ≤ (Go.bits .and .u64 (Go.bits .or .u64 (Go.bits .or .u64 (IntKind.u64.wrap ((IntKind.u64.wrap (rd x0_1 0)) * 65536)) (IntKind.u64.wrap ((IntKind.u64.wrap (rd x0_1 1)) * 256))) (IntKind.u64.wrap (rd x0_1 2))) 63) then (if (Go.bits .and .u64 (Go.bits .or .u64 (Go.bits .or .u64 (IntKind.u64.wrap ((IntKind.u64.wrap (rd x0_1 0)) * 65536)) (IntKind.u64.wrap ((IntKind.u64.wrap (rd x0_1 1)) * 256))) (IntKind.u64.wrap (rd x0_1 2))) 63) < 64 then ((some (([bt sg64 (ji6), bt sg64 (ji10), bt sg64 (ji14), bt sg64 (Go.bits .and .u64 (Go.bits .or .u64 (Go.bits .or .u64 (IntKind.u64.wrap ((IntKind.u64.wrap (rd x0_1 0)) * 65536)) (IntKind.u64.wrap ((IntKind.u64.wrap (rd x0_1 1)) * 256))) (IntKind.u64.wrap (rd x0_1 2))) 63)] : List Int) : List Int)).bind fun y228 => (if x3_1.length + y228.length < 140737488355328 then (if 3 ≤ (x0_1.length : Int) then (smjson_b64.l0 k1 (x0_1.drop 3) (x3_1 ++ y228)) else (none)) else (none))) else (none)) else (none)) else (none)) else (none)) = some r := by first | (rw [hji14] at H; exact H) | (simp only [hji14] at H ⊢; exact H)
                      by_cases c15 : 0 ≤ (ji14)
                      · rw [if_pos c15] at H
                        have c15b0 : decide (0 ≤ (ji14)) = true := decide_eq_true c15
                        clear c15
                        by_cases c16 : (ji14) < 64
                        · rw [if_pos c16] at H
                          have c16b0 : decide ((ji14) < 64) = true := decide_eq_true c16
                          clear c16
                          obtain ⟨ji18, hji18⟩ : ∃ j_ : Int, (Go.bits .and .u64 (Go.bits .or .u64 (Go.bits .or .u64 (IntKind.u64.wrap ((IntKind.u64.wrap (rd x0_1 0)) * 65536)) (IntKind.u64.wrap ((IntKind.u64.wrap (rd x0_1 1)) * 256))) (IntKind.u64.wrap (rd x0_1 2))) 63) = j_ := ⟨_, rfl⟩
                          replace H : (if 0 ≤ (ji18) then (if (ji18) < 64 then ((some (([bt sg64 (ji6), bt sg64 (ji10), bt sg64 (ji14), bt sg64 (ji18)] : List Int) : List Int)).bind fun y228 => (if x3_1.length + y228.length < 140737488355328 then (if 3 ≤ (x0_1.length : Int) then (smjson_b64.l0 k1 (x0_1.drop 3) (x3_1 ++ y228)) else (none)) else (none))) else (none)) else (none)) = some r := by first | (rw [hji18] at H; exact H) | (simp only [hji18] at H ⊢; exact H)
                          by_cases c19 : 0 ≤ (ji18)
                          · rw [if_pos c19] at H
                            have c19b0 : decide (0 ≤ (ji18)) = true := decide_eq_true c19
                            clear c19
                            by_cases c20 : (ji18) < 64
                            · rw [if_pos c20] at H
                              have c20b0 : decide ((ji18) < 64) = true := decide_eq_true c20
                              clear c20
                              obtain ⟨y228, hy228⟩ : ∃ y_ : List Int, y_ = (([bt sg64 (ji6), bt sg64 (ji10), bt sg64 (ji14), bt sg64 (ji18)] : List Int)) := ⟨_, rfl⟩
                              replace H : (if x3_1.length + y228.length < 140737488355328 then (if 3 ≤ (x0_1.length : Int) then (smjson_b64.l0 k1 (x0_1.drop 3) (x3_1 ++ y228)) else (none)) else (none)) = some r := by first | (rw [hy228]; with_reducible exact H) | (have H2_ := (Option.bind_some _ _).symm.trans H; rw [hy228]; with_reducible exact H2_) | (have H2_ := (Option.bind_some _ _).symm.trans H; with_reducible exact H2_) | with_reducible exact H | (rw [hy228]; exact H) | exact H
                              have Ny228 := Aside0.mk hy228
                              clear hy228
                              by_cases c22 : x3_1.length + y228.length < 140737488355328
                              · rw [if_pos c22] at H
                                have LMc22 := Aside0.mk c22
                                clear c22
                                obtain ⟨y231, hy231⟩ : ∃ y_ : List Int, y_ = (x3_1 ++ y228) := ⟨_, rfl⟩
                                replace H : (if 3 ≤ (x0_1.length : Int) then (smjson_b64.l0 k1 (x0_1.drop 3) y231) else (none)) = some r := by first | (rw [hy231]; with_reducible exact H) | (have H2_ := (Option.bind_some _ _).symm.trans H; rw [hy231]; with_reducible exact H2_) | (have H2_ := (Option.bind_some _ _).symm.trans H; with_reducible exact H2_) | with_reducible exact H | (rw [hy231]; exact H) | exact H
                                have Ny231 := Aside0.mk hy231
                                clear hy231
                                by_cases c23 : 3 ≤ (x0_1.length : Int)
                                · rw [if_pos c23] at H
                                  have c23b0 := eq_true c23
                                  have c23b1 : decide (3 ≤ (x0_1.length : Int)) = true := decide_eq_true c23
                                  clear c23
                                  obtain ⟨y234, hy234⟩ : ∃ y_ : List Int, y_ = (x0_1.drop 3) := ⟨_, rfl⟩
                                  replace H : (smjson_b64.l0 k1 y234 y231) = some r := by first | (rw [hy234]; with_reducible exact H) | (have H2_ := (Option.bind_some _ _).symm.trans H; rw [hy234]; with_reducible exact H2_) | (have H2_ := (Option.bind_some _ _).symm.trans H; with_reducible exact H2_) | with_reducible exact H | (rw [hy234]; exact H) | exact H
                                  have Ny234 := Aside0.mk hy234
                                  clear hy234
                                  have H' := Aside0.mk H
                                  clear H
                                  obtain ⟨Ao24, co24, eo24⟩ := Kd.V_slice HO_0.out
                                  subst eo24
                                  try go_wp2
                                  have n0_ := Aside0.mk (Kd.V_drew HO_0.out)
                                  have n1_ := Aside0.mk (Kd.R_drew HO_3.out)
                                  have n2_ := Aside0.mk (below_drew1 HB.out)
                                  clear HO_0
                                  clear HO_3
                                  clear HB
                                  have HO_0 := n0_
                                  have HO_3 := n1_
                                  have HB := n2_
                                  clear n0_ n1_ n2_
                                  have p225 : 0 ≤ (0 : Int) := (by omega)
                                  have q225 : 0 < (x0_1.length : Int) := of_decide_eq_true (by first | (with_reducible assumption) | assumption)
                                  obtain ⟨ad225, e225, hx225_0⟩ := Kd.at_int (Kd.V_reads' HO_0.out).2.2 0 p225 q225
                                  cases e225
                                  have qi225 : (0 < x0_1.length) = True := eq_true (by omega)
                                  (try rw [show ((0 : Int)).toNat = 0 from rfl] at hx225_0)
                                  (try rw [Addr.add_zero'] at hx225_0)
                                  replace p225 := eq_true p225
                                  replace q225 := eq_true q225
                                  have p226 : 0 ≤ (1 : Int) := (by omega)
                                  have q226 : 1 < (x0_1.length : Int) := of_decide_eq_true (by first | (with_reducible assumption) | assumption)
                                  obtain ⟨ad226, e226, hx226_0⟩ := Kd.at_int (Kd.V_reads' HO_0.out).2.2 1 p226 q226
                                  obtain rfl : ad225 = ad226 := (by injection e226)
                                  (try simp only [show (1 : Int).toNat = 1 from rfl, Nat.reduceMul, Nat.reduceEqDiff, Go.Addr.add, ↓reduceIte] at hx226_0)
                                  have qi226 : (1 < x0_1.length) = True := eq_true (by omega)
                                  (try rw [show ((1 : Int)).toNat = 1 from rfl] at hx226_0)
                                  replace p226 := eq_true p226
                                  replace q226 := eq_true q226
                                  have p227 : 0 ≤ (2 : Int) := (by omega)
                                  have q227 : 2 < (x0_1.length : Int) := of_decide_eq_true (by first | (with_reducible assumption) | assumption)
                                  obtain ⟨ad227, e227, hx227_0⟩ := Kd.at_int (Kd.V_reads' HO_0.out).2.2 2 p227 q227
                                  obtain rfl : ad225 = ad227 := (by injection e227)
                                  (try simp only [show (2 : Int).toNat = 2 from rfl, Nat.reduceMul, Nat.reduceEqDiff, Go.Addr.add, ↓reduceIte] at hx227_0)
                                  have qi227 : (2 < x0_1.length) = True := eq_true (by omega)
                                  (try rw [show ((2 : Int)).toNat = 2 from rfl] at hx227_0)
                                  replace p227 := eq_true p227
                                  replace q227 := eq_true q227
                                  refine start_ (n := 17) (S := fun w' => w'.cell? ad225 = some (.int .u8 (rd x0_1 0)) ∧ w'.cell? ⟨ad225.block, ad225.off + 1, none⟩ = some (.int .u8 (rd x0_1 1)) ∧ w'.cell? ⟨ad225.block, ad225.off + 2, none⟩ = some (.int .u8 (rd x0_1 2))) (ds := []) #[false, false, false, false, false, false, false, false, false, false, false, false, false, false, false, false, false] (by kernel_rfl) rfl rfl ⟨hx225_0, hx226_0, hx227_0⟩ (fun hHeld => ?_); refine with_tabW smjson_b64.tab3 smjson_b64.bits3 (fun HT_ HW_ => ?_)
                                  generalize wr.drew = w25 at HO_0 HO_3 HB hx225_0 hx226_0 hx227_0 hHeld ⊢
                                  refine puk 0 10 ?_
                                  refine puk 1 11 ?_
                                  refine puk 5 15 ?_
                                  refine puk 6 16 ?_
                                  refine puk 11 21 ?_
                                  refine puk 12 22 ?_
                                  refine tak 2 12 ?_
                                  refine puk 3 13 ?_
                                  refine puk 4 14 ?_
                                  refine tak 7 17 ?_
                                  refine puk 8 18 ?_
                                  refine puk 9 19 ?_
                                  refine puk 10 20 ?_
                                  refine tak 13 23 ?_
                                  refine puk 14 24 ?_
                                  refine puk 15 25 ?_
                                  refine puk 16 4 ?_
                                  refine done_ (done_of HT_.out (by kernel_rfl)) ?_
                                  try go_wp2
                                  have n0_ := Aside0.mk (Kd.V_drew HO_0.out)
                                  have n1_ := Aside0.mk (Kd.R_drew HO_3.out)
                                  have n2_ := Aside0.mk (below_drew1 HB.out)
                                  clear HO_0
                                  clear HO_3
                                  clear HB
                                  have HO_0 := n0_
                                  have HO_3 := n1_
                                  have HB := n2_
                                  clear n0_ n1_ n2_
                                  have p9 : 0 ≤ ((ji6) : Int) := of_decide_eq_true (by first | (with_reducible assumption) | assumption)
                                  have q9 : (ji6) < (64 : Int) := of_decide_eq_true (by first | (with_reducible assumption) | assumption)
                                  have hx9 := bt_at sg64 (ji6)
                                  replace p9 := eq_true p9
                                  replace q9 := eq_true q9
                                  have p13 : 0 ≤ ((ji10) : Int) := of_decide_eq_true (by first | (with_reducible assumption) | assumption)
                                  have q13 : (ji10) < (64 : Int) := of_decide_eq_true (by first | (with_reducible assumption) | assumption)
                                  have hx13 := bt_at sg64 (ji10)
                                  replace p13 := eq_true p13
                                  replace q13 := eq_true q13
                                  have p17 : 0 ≤ ((ji14) : Int) := of_decide_eq_true (by first | (with_reducible assumption) | assumption)
                                  have q17 : (ji14) < (64 : Int) := of_decide_eq_true (by first | (with_reducible assumption) | assumption)
                                  have hx17 := bt_at sg64 (ji14)
                                  replace p17 := eq_true p17
                                  replace q17 := eq_true q17
                                  have p21 : 0 ≤ ((ji18) : Int) := of_decide_eq_true (by first | (with_reducible assumption) | assumption)
                                  have q21 : (ji18) < (64 : Int) := of_decide_eq_true (by first | (with_reducible assumption) | assumption)
                                  have hx21 := bt_at sg64 (ji18)
                                  replace p21 := eq_true p21
                                  replace q21 := eq_true q21
                                  refine start_ (n := 19) (S := fun w' => True) (ds := []) #[false, false, false, false, false, false, false, false, false, false, false, false, false, false, false, false, false, false, false] (by kernel_rfl) rfl rfl trivial (fun hHeld => ?_); refine with_tabW smjson_b64.tab4 smjson_b64.bits4 (fun HT_ HW_ => ?_)
                                  generalize w25.drew = w26 at HO_0 HO_3 HB hHeld ⊢
                                  refine puk 0 26 ?_
                                  refine puk 1 27 ?_
                                  refine puk 2 28 ?_
                                  refine puk 3 29 ?_
                                  refine puk 5 31 ?_
                                  refine puk 6 32 ?_
                                  refine puk 7 33 ?_
                                  refine puk 9 35 ?_
                                  refine puk 10 36 ?_
                                  refine puk 11 37 ?_
                                  refine puk 13 39 ?_
                                  refine puk 14 40 ?_
                                  refine tak 4 30 ?_
                                  refine tak 8 34 ?_
                                  refine tak 12 38 ?_
                                  refine tak 15 41 ?_
                                  refine onk 16 42 (fun K hK => ?_)
                                  refine Kd.R_lit_step (Kd.int .u8) _ 5 ?hg (N := 42) ?hd (xs := ([bt sg64 (ji6), bt sg64 (ji10), bt sg64 (ji14), bt sg64 (ji18)] : List Int)) (inner := [.int .u8 (bt sg64 (ji6)), .int .u8 (bt sg64 (ji10)), .int .u8 (bt sg64 (ji14)), .int .u8 (bt sg64 (ji18))]) (ok := fun _ => True) (okp := fun _ => True) ?hr ?hp (fun _ hk => hk) trivial (Below.refl _ _) (Nat.le_refl _) (by simp) ?_; (case hd => rfl); (case hg => rfl); (case hr => first | (go_simp; done) | (go_simp; rfl)); (case hp => exact (Reps.one (show Kd.M (Kd.int .u8) _ _ _ (bt sg64 (ji6)) [.int .u8 (bt sg64 (ji6))] from rfl) (Reps.one (show Kd.M (Kd.int .u8) _ _ _ (bt sg64 (ji10)) [.int .u8 (bt sg64 (ji10))] from rfl) (Reps.one (show Kd.M (Kd.int .u8) _ _ _ (bt sg64 (ji14)) [.int .u8 (bt sg64 (ji14))] from rfl) (Reps.one (show Kd.M (Kd.int .u8) _ _ _ (bt sg64 (ji18)) [.int .u8 (bt sg64 (ji18))] from rfl) (Reps.none _ _))))))
                                  intro v229 w27 ho28 hb hg_ hnew_
                                  clear hg_ hnew_
                                  (first | rw [← Ny228.out] at ho28 | (simp only [Int.reduceToNat] at ho28; rw [← Ny228.out] at ho28))
                                  have n0_ := Aside0.mk (Kd.V_elder' (by (with_reducible repeat (first | apply Kd.V_alloc | apply Kd.V_drewN | apply Kd.V_drew)); exact HO_0.out) (Kd.R_base ho28) hb)
                                  have n1_ := Aside0.mk (Kd.R_elder' (by (with_reducible repeat (first | apply Kd.R_alloc | apply Kd.R_drewN | apply Kd.R_drew)); exact HO_3.out) (Kd.R_base ho28) hb)
                                  have n2_ := Aside0.mk (Kd.R_lower (Kd.R_new' (Kd.R_newM (M := fun k_ => (w.heap.size ≤ k_)) ho28 (below_size (by repeat (first | (with_reducible first | exact HB.out | apply below_alloc | apply pw_below_drewN | apply below_drew1) | exact HB.out))) (fun k_ h_ => h_)) (Kd.R_lt (by (with_reducible repeat (first | apply Kd.R_alloc | apply Kd.R_drewN | apply Kd.R_drew)); exact HO_3.out))) (below_size (by repeat (first | (with_reducible first | exact HB.out | apply below_alloc | apply pw_below_drewN | apply below_drew1) | exact HB.out))))
                                  have n3_ := Aside0.mk (below_step (by repeat (first | (with_reducible first | exact HB.out | apply below_alloc | apply pw_below_drewN | apply below_drew1) | exact HB.out)) hb)
                                  clear HO_0
                                  clear HO_3
                                  clear HB
                                  have HO_0 := n0_
                                  have HO_3 := n1_
                                  have HO230 := n2_
                                  have HB := n3_
                                  clear n0_ n1_ n2_ n3_
                                  clear hb ho28
                                  obtain ⟨Ao30, co30, eo30⟩ := Kd.R_slice HO230.out
                                  (first | subst eo30 | (injection eo30 with f1_ f2_ f3_; have f4_ := f1_.symm; have f5_ := f3_.symm; clear f1_ f2_ f3_; subst f4_; subst f5_))
                                  refine hK.out _ _ trivial (fun hHeld => ?_)
                                  clear hK K
                                  refine nok 42 ?_
                                  refine onk 17 43 (fun K hK => ?_)
                                  refine Kd.R_append_rows_step (Kd.int .u8) (w0 := w) w.heap.size (by rfl) (.tmp 26) (.tmp 42) 22 5 (.int .u8 0) 1 rfl Tryz.underlying22 info5 rfl (by decide) (by omega) u3 x3_1 y228 _ _ _ (fun k_ => (w.heap.size ≤ k_) ∧ some k_ ≠ (.slice Ao30 y228.length co30 : Value).ownBlock) (fun _ => False) rfl rfl ?aO ?aR (fun _ _ h => h) (fun _ h => h.elim) ?aF ?aB ?aS ?aL ?_
                                  (case aR => repeat (first | exact (Kd.R_reads' HO230.out).2.2 | (with_reducible refine Kd.C_alloc ?_ _) | (with_reducible refine Kd.C_drewN ?_ _) | (with_reducible refine Kd.C_drew ?_)))
                                  (case aB => exact (by repeat (first | (with_reducible first | exact HB.out | apply below_alloc | apply pw_below_drewN | apply below_drew1) | exact HB.out)))
                                  (case aF => exact (fun k_ hk => ⟨(Nat.le_trans (below_size (by repeat (first | (with_reducible first | exact HB.out | apply below_alloc | apply pw_below_drewN | apply below_drew1) | exact HB.out))) hk), Kd.fresh' (Kd.R_lt (by (with_reducible repeat (first | apply Kd.R_alloc | apply Kd.R_drewN | apply Kd.R_drew)); exact HO230.out)) k_ hk⟩))
                                  (case aO => exact (by (with_reducible repeat (first | apply Kd.R_alloc | apply Kd.R_drewN | apply Kd.R_drew)); exact HO_3.out))
                                  (case aS => exact (below_size (by repeat (first | (with_reducible first | exact HB.out | apply below_alloc | apply pw_below_drewN | apply below_drew1) | exact HB.out))))
                                  (case aL => have := LMc22.out; omega)
                                  intro v232 w29 ho hb hg hat
                                  rw [← Ny231.out] at ho
                                  have n0_ := Aside0.mk (Kd.V_afterv (ok := (fun k_ => (P0_ k_ ∨ w.heap.size ≤ k_) ∧ some k_ ≠ (.slice Ao30 y228.length co30 : Value).ownBlock)) (by (with_reducible repeat (first | apply Kd.V_alloc | apply Kd.V_drewN | apply Kd.V_drew)); exact Kd.V_mono HO_0.out (fun _ hk => ⟨⟨hk.1.1, hk.2⟩, hk.1.2⟩)) hg hat)
                                  have n1_ := Aside0.mk (Kd.R_after (ok := (fun k_ => (w.heap.size ≤ k_))) (by (with_reducible repeat (first | apply Kd.R_alloc | apply Kd.R_drewN | apply Kd.R_drew)); exact Kd.R_mono HO230.out (fun _ hk => ⟨hk.1.1, hk.2⟩)) hg hat)
                                  have n2_ := Aside0.mk (hb)
                                  have n3_ := Aside0.mk (ho)
                                  clear HO_0
                                  clear HO230
                                  clear HB
                                  clear HO_3
                                  have HO_0 := n0_
                                  have HO230 := n1_
                                  have HB := n2_
                                  have HO233 := n3_
                                  clear n0_ n1_ n2_ n3_
                                  clear ho hb hg hat
                                  refine hK.out _ _ trivial (fun hHeld => ?_)
                                  clear hK K
                                  refine nok 43 ?_
                                  refine puk 18 3 ?_
                                  refine done_ (done_of HT_.out (by kernel_rfl)) ?_
                                  have q31 : (3 : Int) ≤ ((x0_1.length : Int) : Int) := of_decide_eq_true (by first | (with_reducible assumption) | assumption)
                                  obtain ⟨i031, hi031, _, hsz31, _⟩ := info_parts info5
                                  have hroom31 : x0_1.length ≤ co24 := (Kd.V_reads' HO_0.out).2.1
                                  have hC31 : Kd.F (Kd.int .u8) _ _ (some ad225) x0_1.length x0_1 := (Kd.V_at (base := w.heap.size) HO_0.out).2.2
                                  have hcut31 := cut_from (P := Tryz.prog) 22 5 .i64 Tryz.underlying22 hi031 1 hsz31 (some ad225) x0_1.length co24 3 (by omega) q31
                                  have hr31 := Kd.F_cut (m := (3 : Int).toNat) (c := co24) hC31 (by omega) hroom31
                                  obtain ⟨A31, hA31⟩ : ∃ A1, A1 = (if co24 = (3 : Int).toNat then (some ad225) else ((some ad225) : Option Addr).map (·.add ((3 : Int).toNat * 1))) := ⟨_, rfl⟩
                                  obtain ⟨c31, hc31⟩ : ∃ c1, c1 = co24 - (3 : Int).toNat := ⟨_, rfl⟩
                                  have hy31 : y234.length = x0_1.length - (3 : Int).toNat := (by rw [Ny234.out, List.length_drop] <;> omega)
                                  rw [show (x0_1).drop (3 : Int).toNat = y234 from Ny234.out.symm] at hr31
                                  replace hr31 : Kd.F (Kd.int .u8) _ _ A31 y234.length y234 := (by rw [hA31]; exact hr31)
                                  rw [← hy31, ← hA31, ← hc31] at hcut31
                                  have HO238 := Aside0.mk (show Kd.V (Kd.int .u8) 5 _ w.heap.size _ (.slice A31 y234.length c31) y234 from Kd.V_mk (by rw [hy31, hc31]; exact Nat.sub_le_sub_right hroom31 _) hr31)
                                  have HC238 := Aside0.mk (show y234.length ≤ c31 from by rw [hy31, hc31]; exact Nat.sub_le_sub_right hroom31 _)
                                  clear hr31 hC31 hroom31 hi031 hsz31 hc31
                                  have KY31 := Aside0.mk hy31
                                  have KA31 := Aside0.mk hA31
                                  clear hy31 hA31
                                  replace q31 := eq_true q31
                                  try go_wp2
                                  go_roundg k1
                                  case measure => have := HK1.out; omega
                                  case rel => exact ⟨(y234), (y231), H', ⟨by have := HK1.out; omega⟩, ⟨by (with_reducible repeat (first | apply Kd.V_alloc | apply Kd.V_drewN | apply Kd.V_drew)); exact Kd.V_mono HO238.out (fun _ hk => ⟨hk.1.1, hk.2⟩)⟩, ⟨by (with_reducible repeat (first | apply Kd.R_alloc | apply Kd.R_drewN | apply Kd.R_drew)); exact Kd.R_mono HO233.out (fun _ hk => hk.1)⟩, ⟨by repeat (first | (with_reducible first | exact HB.out | apply below_alloc | apply pw_below_drewN | apply below_drew1) | exact HB.out)⟩⟩
                                · rw [if_neg c23] at H
                                  exact absurd H (by simp)
                              · rw [if_neg c22] at H
                                exact absurd H (by simp)
                            · rw [if_neg c20] at H
                              exact absurd H (by simp)
                          · rw [if_neg c19] at H
                            exact absurd H (by simp)
                        · rw [if_neg c16] at H
                          exact absurd H (by simp)
                      · rw [if_neg c15] at H
                        exact absurd H (by simp)
                    · rw [if_neg c12] at H
                      exact absurd H (by simp)
                  · rw [if_neg c11] at H
                    exact absurd H (by simp)
                · rw [if_neg c8] at H
                  exact absurd H (by simp)
              · rw [if_neg c7] at H
                exact absurd H (by simp)
            · rw [if_neg c5] at H
              exact absurd H (by simp)
          · rw [if_neg c4] at H
            exact absurd H (by simp)
        · rw [if_neg c3] at H
          exact absurd H (by simp)
      · rw [if_neg c2] at H
        have c2b0 : decide (3 ≤ (x0_1.length : Int)) = false := decide_eq_false c2
        have c2b1 : decide (3 ≤ x0_1.length) = false := decide_eq_false (by omega)
        clear c2
        by_cases c32 : (x0_1.length : Int) = 1
        · rw [if_pos c32] at H
          have c32b0 : ((x0_1.length : Int) == 1) = true := beq_iff_eq.mpr c32
          have c32b1 : ((x0_1.length : Int) != 1) = false := bne_eq_false_iff_eq.mpr c32
          clear c32
          by_cases c33 : 0 < (x0_1.length : Int)
          · rw [if_pos c33] at H
            have c33b0 : decide (0 < (x0_1.length : Int)) = true := decide_eq_true c33
            have c33b1 : decide (0 < x0_1.length) = true := decide_eq_true (by omega)
            clear c33
            obtain ⟨ji34, hji34⟩ : ∃ j_ : Int, (Go.bits .and .u64 ((IntKind.u64.wrap ((IntKind.u64.wrap (rd x0_1 0)) * 65536)) / 262144) 63) = j_ := ⟨_, rfl⟩
            replace H : (if 0 ≤ (ji34) then (if (ji34) < 64 then (if 0 ≤ (Go.bits .and .u64 ((IntKind.u64.wrap ((IntKind.u64.wrap (rd x0_1 0)) * 65536)) / 4096) 63) then (if (Go.bits .and .u64 ((IntKind.u64.wrap ((IntKind.u64.wrap (rd x0_1 0)) * 65536)) / 4096) 63) < 64 then ((some (([bt sg64 (ji34), bt sg64 (Go.bits .and .u64 ((IntKind.u64.wrap ((IntKind.u64.wrap (rd x0_1 0)) * 65536)) / 4096) 63), 61, 61] : List Int) : List Int)).bind fun y240 => (if x3_1.length + y240.length < 140737488355328 then (some (strOfNums (x3_1 ++ y240))) else (none))) else (none)) else (none)) else (none)) else (none)) = some r := by first | (rw [hji34] at H; exact H) | (simp only [hji34] at H ⊢; exact H)
            by_cases c35 : 0 ≤ (ji34)
            · rw [if_pos c35] at H
              have c35b0 : decide (0 ≤ (ji34)) = true := decide_eq_true c35
              clear c35
              by_cases c36 : (ji34) < 64
              · rw [if_pos c36] at H
                have c36b0 : decide ((ji34) < 64) = true := decide_eq_true c36
                clear c36
                obtain ⟨ji38, hji38⟩ : ∃ j_ : Int, (Go.bits .and .u64 ((IntKind.u64.wrap ((IntKind.u64.wrap (rd x0_1 0)) * 65536)) / 4096) 63) = j_ := ⟨_, rfl⟩
                replace H : (if 0 ≤ (ji38) then (if (ji38) < 64 then ((some (([bt sg64 (ji34), bt sg64 (ji38), 61, 61] : List Int) : List Int)).bind fun y240 => (if x3_1.length + y240.length < 140737488355328 then (some (strOfNums (x3_1 ++ y240))) else (none))) else (none)) else (none)) = some r := by first | (rw [hji38] at H; exact H) | (simp only [hji38] at H ⊢; exact H)
                by_cases c39 : 0 ≤ (ji38)
                · rw [if_pos c39] at H
                  have c39b0 : decide (0 ≤ (ji38)) = true := decide_eq_true c39
                  clear c39
                  by_cases c40 : (ji38) < 64
                  · rw [if_pos c40] at H
                    have c40b0 : decide ((ji38) < 64) = true := decide_eq_true c40
                    clear c40
                    obtain ⟨y240, hy240⟩ : ∃ y_ : List Int, y_ = (([bt sg64 (ji34), bt sg64 (ji38), 61, 61] : List Int)) := ⟨_, rfl⟩
                    replace H : (if x3_1.length + y240.length < 140737488355328 then (some (strOfNums (x3_1 ++ y240))) else (none)) = some r := by first | (rw [hy240]; with_reducible exact H) | (have H2_ := (Option.bind_some _ _).symm.trans H; rw [hy240]; with_reducible exact H2_) | (have H2_ := (Option.bind_some _ _).symm.trans H; with_reducible exact H2_) | with_reducible exact H | (rw [hy240]; exact H) | exact H
                    have Ny240 := Aside0.mk hy240
                    clear hy240
                    by_cases c42 : x3_1.length + y240.length < 140737488355328
                    · rw [if_pos c42] at H
                      have LMc42 := Aside0.mk c42
                      clear c42
                      obtain ⟨y243, hy243⟩ : ∃ y_ : List Int, y_ = (x3_1 ++ y240) := ⟨_, rfl⟩
                      replace H : (some (strOfNums y243)) = some r := by first | (rw [hy243]; with_reducible exact H) | (have H2_ := (Option.bind_some _ _).symm.trans H; rw [hy243]; with_reducible exact H2_) | (have H2_ := (Option.bind_some _ _).symm.trans H; with_reducible exact H2_) | with_reducible exact H | (rw [hy243]; exact H) | exact H
                      have Ny243 := Aside0.mk hy243
                      clear hy243
                      obtain rfl := Option.some.inj H
                      obtain ⟨Ao43, co43, eo43⟩ := Kd.V_slice HO_0.out
                      subst eo43
                      have p239 : 0 ≤ (0 : Int) := (by omega)
                      have q239 : 0 < (x0_1.length : Int) := of_decide_eq_true (by first | (with_reducible assumption) | assumption)
                      obtain ⟨ad239, e239, hx239_0⟩ := Kd.at_int (Kd.V_reads' HO_0.out).2.2 0 p239 q239
                      cases e239
                      have qi239 : (0 < x0_1.length) = True := eq_true (by omega)
                      (try rw [show ((0 : Int)).toNat = 0 from rfl] at hx239_0)
                      (try rw [Addr.add_zero'] at hx239_0)
                      replace p239 := eq_true p239
                      replace q239 := eq_true q239
                      try go_wp2
                      have n0_ := Aside0.mk (Kd.V_drew HO_0.out)
                      have n1_ := Aside0.mk (Kd.R_drew HO_3.out)
                      have n2_ := Aside0.mk (below_drew1 HB.out)
                      clear HO_0
                      clear HO_3
                      clear HB
                      have HO_0 := n0_
                      have HO_3 := n1_
                      have HB := n2_
                      clear n0_ n1_ n2_
                      have p37 : 0 ≤ ((ji34) : Int) := of_decide_eq_true (by first | (with_reducible assumption) | assumption)
                      have q37 : (ji34) < (64 : Int) := of_decide_eq_true (by first | (with_reducible assumption) | assumption)
                      have hx37 := bt_at sg64 (ji34)
                      replace p37 := eq_true p37
                      replace q37 := eq_true q37
                      have p41 : 0 ≤ ((ji38) : Int) := of_decide_eq_true (by first | (with_reducible assumption) | assumption)
                      have q41 : (ji38) < (64 : Int) := of_decide_eq_true (by first | (with_reducible assumption) | assumption)
                      have hx41 := bt_at sg64 (ji38)
                      replace p41 := eq_true p41
                      replace q41 := eq_true q41
                      refine start_ (n := 12) (S := fun w' => True) (ds := []) #[false, false, false, false, false, false, false, false, false, false, false, false] (by kernel_rfl) rfl rfl trivial (fun hHeld => ?_); refine with_tabW smjson_b64.tab9 smjson_b64.bits9 (fun HT_ HW_ => ?_)
                      generalize wr.drew = w44 at HO_0 HO_3 HB hHeld ⊢
                      refine puk 0 55 ?_
                      refine puk 1 56 ?_
                      refine puk 2 57 ?_
                      refine puk 3 58 ?_
                      refine puk 5 60 ?_
                      refine puk 6 61 ?_
                      refine puk 7 62 ?_
                      refine tak 4 59 ?_
                      refine tak 8 63 ?_
                      refine onk 9 64 (fun K hK => ?_)
                      refine Kd.R_lit_step (Kd.int .u8) _ 5 ?hg (N := 64) ?hd (xs := ([bt sg64 (ji34), bt sg64 (ji38), 61, 61] : List Int)) (inner := [.int .u8 (bt sg64 (ji34)), .int .u8 (bt sg64 (ji38)), .int .u8 61, .int .u8 61]) (ok := fun _ => True) (okp := fun _ => True) ?hr ?hp (fun _ hk => hk) trivial (Below.refl _ _) (Nat.le_refl _) (by simp) ?_; (case hd => rfl); (case hg => rfl); (case hr => first | (go_simp; done) | (go_simp; rfl)); (case hp => exact (Reps.one (show Kd.M (Kd.int .u8) _ _ _ (bt sg64 (ji34)) [.int .u8 (bt sg64 (ji34))] from rfl) (Reps.one (show Kd.M (Kd.int .u8) _ _ _ (bt sg64 (ji38)) [.int .u8 (bt sg64 (ji38))] from rfl) (Reps.one (show Kd.M (Kd.int .u8) _ _ _ 61 [.int .u8 61] from rfl) (Reps.one (show Kd.M (Kd.int .u8) _ _ _ 61 [.int .u8 61] from rfl) (Reps.none _ _))))))
                      intro v241 w45 ho46 hb hg_ hnew_
                      clear hg_ hnew_
                      (first | rw [← Ny240.out] at ho46 | (simp only [Int.reduceToNat] at ho46; rw [← Ny240.out] at ho46))
                      have n0_ := Aside0.mk (Kd.V_elder' (by (with_reducible repeat (first | apply Kd.V_alloc | apply Kd.V_drewN | apply Kd.V_drew)); exact HO_0.out) (Kd.R_base ho46) hb)
                      have n1_ := Aside0.mk (Kd.R_elder' (by (with_reducible repeat (first | apply Kd.R_alloc | apply Kd.R_drewN | apply Kd.R_drew)); exact HO_3.out) (Kd.R_base ho46) hb)
                      have n2_ := Aside0.mk (Kd.R_lower (Kd.R_new' (Kd.R_newM (M := fun k_ => (w.heap.size ≤ k_)) ho46 (below_size (by repeat (first | (with_reducible first | exact HB.out | apply below_alloc | apply pw_below_drewN | apply below_drew1) | exact HB.out))) (fun k_ h_ => h_)) (Kd.R_lt (by (with_reducible repeat (first | apply Kd.R_alloc | apply Kd.R_drewN | apply Kd.R_drew)); exact HO_3.out))) (below_size (by repeat (first | (with_reducible first | exact HB.out | apply below_alloc | apply pw_below_drewN | apply below_drew1) | exact HB.out))))
                      have n3_ := Aside0.mk (below_step (by repeat (first | (with_reducible first | exact HB.out | apply below_alloc | apply pw_below_drewN | apply below_drew1) | exact HB.out)) hb)
                      clear HO_0
                      clear HO_3
                      clear HB
                      have HO_0 := n0_
                      have HO_3 := n1_
                      have HO242 := n2_
                      have HB := n3_
                      clear n0_ n1_ n2_ n3_
                      clear hb ho46
                      obtain ⟨Ao48, co48, eo48⟩ := Kd.R_slice HO242.out
                      (first | subst eo48 | (injection eo48 with f1_ f2_ f3_; have f4_ := f1_.symm; have f5_ := f3_.symm; clear f1_ f2_ f3_; subst f4_; subst f5_))
                      refine hK.out _ _ trivial (fun hHeld => ?_)
                      clear hK K
                      refine nok 64 ?_
                      refine onk 10 65 (fun K hK => ?_)
                      refine Kd.R_append_rows_step (Kd.int .u8) (w0 := w) w.heap.size (by rfl) (.tmp 55) (.tmp 64) 22 5 (.int .u8 0) 1 rfl Tryz.underlying22 info5 rfl (by decide) (by omega) u3 x3_1 y240 _ _ _ (fun k_ => (w.heap.size ≤ k_) ∧ some k_ ≠ (.slice Ao48 y240.length co48 : Value).ownBlock) (fun _ => False) rfl rfl ?aO ?aR (fun _ _ h => h) (fun _ h => h.elim) ?aF ?aB ?aS ?aL ?_
                      (case aR => repeat (first | exact (Kd.R_reads' HO242.out).2.2 | (with_reducible refine Kd.C_alloc ?_ _) | (with_reducible refine Kd.C_drewN ?_ _) | (with_reducible refine Kd.C_drew ?_)))
                      (case aB => exact (by repeat (first | (with_reducible first | exact HB.out | apply below_alloc | apply pw_below_drewN | apply below_drew1) | exact HB.out)))
                      (case aF => exact (fun k_ hk => ⟨(Nat.le_trans (below_size (by repeat (first | (with_reducible first | exact HB.out | apply below_alloc | apply pw_below_drewN | apply below_drew1) | exact HB.out))) hk), Kd.fresh' (Kd.R_lt (by (with_reducible repeat (first | apply Kd.R_alloc | apply Kd.R_drewN | apply Kd.R_drew)); exact HO242.out)) k_ hk⟩))
                      (case aO => exact (by (with_reducible repeat (first | apply Kd.R_alloc | apply Kd.R_drewN | apply Kd.R_drew)); exact HO_3.out))
                      (case aS => exact (below_size (by repeat (first | (with_reducible first | exact HB.out | apply below_alloc | apply pw_below_drewN | apply below_drew1) | exact HB.out))))
                      (case aL => have := LMc42.out; omega)
                      intro v244 w47 ho hb hg hat
                      rw [← Ny243.out] at ho
                      have n0_ := Aside0.mk (Kd.V_afterv (ok := (fun k_ => (P0_ k_ ∨ w.heap.size ≤ k_) ∧ some k_ ≠ (.slice Ao48 y240.length co48 : Value).ownBlock)) (by (with_reducible repeat (first | apply Kd.V_alloc | apply Kd.V_drewN | apply Kd.V_drew)); exact Kd.V_mono HO_0.out (fun _ hk => ⟨⟨hk.1.1, hk.2⟩, hk.1.2⟩)) hg hat)
                      have n1_ := Aside0.mk (Kd.R_after (ok := (fun k_ => (w.heap.size ≤ k_))) (by (with_reducible repeat (first | apply Kd.R_alloc | apply Kd.R_drewN | apply Kd.R_drew)); exact Kd.R_mono HO242.out (fun _ hk => ⟨hk.1.1, hk.2⟩)) hg hat)
                      have n2_ := Aside0.mk (hb)
                      have n3_ := Aside0.mk (ho)
                      clear HO_0
                      clear HO242
                      clear HB
                      clear HO_3
                      have HO_0 := n0_
                      have HO242 := n1_
                      have HB := n2_
                      have HO245 := n3_
                      clear n0_ n1_ n2_ n3_
                      clear ho hb hg hat
                      refine hK.out _ _ trivial (fun hHeld => ?_)
                      clear hK K
                      refine nok 65 ?_
                      refine puk 11 3 ?_
                      refine done_ (done_of HT_.out (by kernel_rfl)) ?_
                      have hcv49 := own_string (P := Tryz.prog) Tryz.underlying22 Tryz.underlying5 Tryz.underlying9 (Kd.own_of_R HO245.out)
                      try go_wp2
                      go_ret
                      exact ⟨by first | rfl | (simp [errW_none, errW_some] <;> rfl) | (simp only [← hji34, ← hji38]; first | rfl | (simp [errW_none, errW_some] <;> rfl)) | (simp [*, errW_none, errW_some] <;> rfl), by repeat (first | (with_reducible first | exact HB.out | apply below_alloc | apply pw_below_drewN | apply below_drew1) | exact HB.out)⟩
                    · rw [if_neg c42] at H
                      exact absurd H (by simp)
                  · rw [if_neg c40] at H
                    exact absurd H (by simp)
                · rw [if_neg c39] at H
                  exact absurd H (by simp)
              · rw [if_neg c36] at H
                exact absurd H (by simp)
            · rw [if_neg c35] at H
              exact absurd H (by simp)
          · rw [if_neg c33] at H
            exact absurd H (by simp)
        · rw [if_neg c32] at H
          have c32b0 : ((x0_1.length : Int) == 1) = false := beq_eq_false_iff_ne.mpr c32
          have c32b1 : ((x0_1.length : Int) != 1) = true := bne_iff_ne.mpr c32
          by_cases c50 : (x0_1.length : Int) = 2
          · rw [if_pos c50] at H
            have c50b0 : ((x0_1.length : Int) == 2) = true := beq_iff_eq.mpr c50
            have c50b1 : ((x0_1.length : Int) != 2) = false := bne_eq_false_iff_eq.mpr c50
            clear c50
            by_cases c51 : 0 < (x0_1.length : Int)
            · rw [if_pos c51] at H
              have c51b0 : decide (0 < (x0_1.length : Int)) = true := decide_eq_true c51
              have c51b1 : decide (0 < x0_1.length) = true := decide_eq_true (by omega)
              clear c51
              by_cases c52 : 1 < (x0_1.length : Int)
              · rw [if_pos c52] at H
                have c52b0 : decide (1 < (x0_1.length : Int)) = true := decide_eq_true c52
                have c52b1 : decide (1 < x0_1.length) = true := decide_eq_true (by omega)
                clear c52
                obtain ⟨ji53, hji53⟩ : ∃ j_ : Int, (Go.bits .and .u64 ((Go.bits .or .u64 (IntKind.u64.wrap ((IntKind.u64.wrap (rd x0_1 0)) * 65536)) (IntKind.u64.wrap ((IntKind.u64.wrap (rd x0_1 1)) * 256))) / 262144) 63) = j_ := ⟨_, rfl⟩
                replace H : (if 0 ≤ (ji53) then (if (ji53) < 64 then (if 0 ≤ (Go.bits .and .u64 ((Go.bits .or .u64 (IntKind.u64.wrap ((IntKind.u64.wrap (rd x0_1 0)) * 65536)) (IntKind.u64.wrap ((IntKind.u64.wrap (rd x0_1 1)) * 256))) / 4096) 63) then (if (Go.bits .and .u64 ((Go.bits .or .u64 (IntKind.u64.wrap ((IntKind.u64.wrap (rd x0_1 0)) * 65536)) (IntKind.u64.wrap ((IntKind.u64.wrap (rd x0_1 1)) * 256))) / 4096) 63) < 64 then (if 0 ≤ (Go.bits .and .u64 ((Go.bits .or .u64 (IntKind.u64.wrap ((IntKind.u64.wrap (rd x0_1 0)) * 65536)) (IntKind.u64.wrap ((IntKind.u64.wrap (rd x0_1 1)) * 256))) / 64) 63) then (if (Go.bits .and .u64 ((Go.bits .or .u64 (IntKind.u64.wrap ((IntKind.u64.wrap (rd x0_1 0)) * 65536)) (IntKind.u64.wrap ((IntKind.u64.wrap (rd x0_1 1)) * 256))) / 64) 63) < 64 then ((some (([bt sg64 (ji53), bt sg64 (Go.bits .and .u64 ((Go.bits .or .u64 (IntKind.u64.wrap ((IntKind.u64.wrap (rd x0_1 0)) * 65536)) (IntKind.u64.wrap ((IntKind.u64.wrap (rd x0_1 1)) * 256))) / 4096) 63), bt sg64 (Go.bits .and .u64 ((Go.bits .or .u64 (IntKind.u64.wrap ((IntKind.u64.wrap (rd x0_1 0)) * 65536)) (IntKind.u64.wrap ((IntKind.u64.wrap (rd x0_1 1)) * 256))) / 64) 63), 61] : List Int) : List Int)).bind fun y248 => (if x3_1.length + y248.length < 140737488355328 then (some (strOfNums (x3_1 ++ y248))) else (none))) else (none)) else (none)) else (none)) else (none)) else (none)) else (none)) = some r := by first | (rw [hji53] at H; exact H) | (simp only [hji53] at H ⊢; exact H)
                by_cases c54 : 0 ≤ (ji53)
                · rw [if_pos c54] at H
                  have c54b0 : decide (0 ≤ (ji53)) = true := decide_eq_true c54
                  clear c54
                  by_cases c55 : (ji53) < 64
                  · rw [if_pos c55] at H
                    have c55b0 : decide ((ji53) < 64) = true := decide_eq_true c55
                    clear c55
                    obtain ⟨ji57, hji57⟩ : ∃ j_ : Int, (Go.bits .and .u64 ((Go.bits .or .u64 (IntKind.u64.wrap ((IntKind.u64.wrap (rd x0_1 0)) * 65536)) (IntKind.u64.wrap ((IntKind.u64.wrap (rd x0_1 1)) * 256))) / 4096) 63) = j_ := ⟨_, rfl⟩
                    replace H : (if 0 ≤ (ji57) then (if (ji57) < 64 then (if 0 ≤ (Go.bits .and .u64 ((Go.bits .or .u64 (IntKind.u64.wrap ((IntKind.u64.wrap (rd x0_1 0)) * 65536)) (IntKind.u64.wrap ((IntKind.u64.wrap (rd x0_1 1)) * 256))) / 64) 63) then (if (Go.bits .and .u64 ((Go.bits .or .u64 (IntKind.u64.wrap ((IntKind.u64.wrap (rd x0_1 0)) * 65536)) (IntKind.u64.wrap ((IntKind.u64.wrap (rd x0_1 1)) * 256))) / 64) 63) < 64 then ((some (([bt sg64 (ji53), bt sg64 (ji57), bt sg64 (Go.bits .and .u64 ((Go.bits .or .u64 (IntKind.u64.wrap ((IntKind.u64.wrap (rd x0_1 0)) * 65536)) (IntKind.u64.wrap ((IntKind.u64.wrap (rd x0_1 1)) * 256))) / 64) 63), 61] : List Int) : List Int)).bind fun y248 => (if x3_1.length + y248.length < 140737488355328 then (some (strOfNums (x3_1 ++ y248))) else (none))) else (none)) else (none)) else (none)) else (none)) = some r := by first | (rw [hji57] at H; exact H) | (simp only [hji57] at H ⊢; exact H)
                    by_cases c58 : 0 ≤ (ji57)
                    · rw [if_pos c58] at H
                      have c58b0 : decide (0 ≤ (ji57)) = true := decide_eq_true c58
                      clear c58
                      by_cases c59 : (ji57) < 64
                      · rw [if_pos c59] at H
                        have c59b0 : decide ((ji57) < 64) = true := decide_eq_true c59
                        clear c59
                        obtain ⟨ji61, hji61⟩ : ∃ j_ : Int, (Go.bits .and .u64 ((Go.bits .or .u64 (IntKind.u64.wrap ((IntKind.u64.wrap (rd x0_1 0)) * 65536)) (IntKind.u64.wrap ((IntKind.u64.wrap (rd x0_1 1)) * 256))) / 64) 63) = j_ := ⟨_, rfl⟩
                        replace H : (if 0 ≤ (ji61) then (if (ji61) < 64 then ((some (([bt sg64 (ji53), bt sg64 (ji57), bt sg64 (ji61), 61] : List Int) : List Int)).bind fun y248 => (if x3_1.length + y248.length < 140737488355328 then (some (strOfNums (x3_1 ++ y248))) else (none))) else (none)) else (none)) = some r := by first | (rw [hji61] at H; exact H) | (simp only [hji61] at H ⊢; exact H)
                        by_cases c62 : 0 ≤ (ji61)
                        · rw [if_pos c62] at H
                          have c62b0 : decide (0 ≤ (ji61)) = true := decide_eq_true c62
                          clear c62
                          by_cases c63 : (ji61) < 64
                          · rw [if_pos c63] at H
                            have c63b0 : decide ((ji61) < 64) = true := decide_eq_true c63
                            clear c63
                            obtain ⟨y248, hy248⟩ : ∃ y_ : List Int, y_ = (([bt sg64 (ji53), bt sg64 (ji57), bt sg64 (ji61), 61] : List Int)) := ⟨_, rfl⟩
                            replace H : (if x3_1.length + y248.length < 140737488355328 then (some (strOfNums (x3_1 ++ y248))) else (none)) = some r := by first | (rw [hy248]; with_reducible exact H) | (have H2_ := (Option.bind_some _ _).symm.trans H; rw [hy248]; with_reducible exact H2_) | (have H2_ := (Option.bind_some _ _).symm.trans H; with_reducible exact H2_) | with_reducible exact H | (rw [hy248]; exact H) | exact H
                            have Ny248 := Aside0.mk hy248
                            clear hy248
                            by_cases c65 : x3_1.length + y248.length < 140737488355328
                            · rw [if_pos c65] at H
                              have LMc65 := Aside0.mk c65
                              clear c65
                              obtain ⟨y251, hy251⟩ : ∃ y_ : List Int, y_ = (x3_1 ++ y248) := ⟨_, rfl⟩
                              replace H : (some (strOfNums y251)) = some r := by first | (rw [hy251]; with_reducible exact H) | (have H2_ := (Option.bind_some _ _).symm.trans H; rw [hy251]; with_reducible exact H2_) | (have H2_ := (Option.bind_some _ _).symm.trans H; with_reducible exact H2_) | with_reducible exact H | (rw [hy251]; exact H) | exact H
                              have Ny251 := Aside0.mk hy251
                              clear hy251
                              obtain rfl := Option.some.inj H
                              obtain ⟨Ao66, co66, eo66⟩ := Kd.V_slice HO_0.out
                              subst eo66
                              try go_wp2
                              have n0_ := Aside0.mk (Kd.V_drew HO_0.out)
                              have n1_ := Aside0.mk (Kd.R_drew HO_3.out)
                              have n2_ := Aside0.mk (below_drew1 HB.out)
                              clear HO_0
                              clear HO_3
                              clear HB
                              have HO_0 := n0_
                              have HO_3 := n1_
                              have HB := n2_
                              clear n0_ n1_ n2_
                              have p246 : 0 ≤ (0 : Int) := (by omega)
                              have q246 : 0 < (x0_1.length : Int) := of_decide_eq_true (by first | (with_reducible assumption) | assumption)
                              obtain ⟨ad246, e246, hx246_0⟩ := Kd.at_int (Kd.V_reads' HO_0.out).2.2 0 p246 q246
                              cases e246
                              have qi246 : (0 < x0_1.length) = True := eq_true (by omega)
                              (try rw [show ((0 : Int)).toNat = 0 from rfl] at hx246_0)
                              (try rw [Addr.add_zero'] at hx246_0)
                              replace p246 := eq_true p246
                              replace q246 := eq_true q246
                              have p247 : 0 ≤ (1 : Int) := (by omega)
                              have q247 : 1 < (x0_1.length : Int) := of_decide_eq_true (by first | (with_reducible assumption) | assumption)
                              obtain ⟨ad247, e247, hx247_0⟩ := Kd.at_int (Kd.V_reads' HO_0.out).2.2 1 p247 q247
                              obtain rfl : ad246 = ad247 := (by injection e247)
                              (try simp only [show (1 : Int).toNat = 1 from rfl, Nat.reduceMul, Nat.reduceEqDiff, Go.Addr.add, ↓reduceIte] at hx247_0)
                              have qi247 : (1 < x0_1.length) = True := eq_true (by omega)
                              (try rw [show ((1 : Int)).toNat = 1 from rfl] at hx247_0)
                              replace p247 := eq_true p247
                              replace q247 := eq_true q247
                              refine start_ (n := 12) (S := fun w' => w'.cell? ad246 = some (.int .u8 (rd x0_1 0)) ∧ w'.cell? ⟨ad246.block, ad246.off + 1, none⟩ = some (.int .u8 (rd x0_1 1))) (ds := []) #[false, false, false, false, false, false, false, false, false, false, false, false] (by kernel_rfl) rfl rfl ⟨hx246_0, hx247_0⟩ (fun hHeld => ?_); refine with_tabW smjson_b64.tab11 smjson_b64.bits11 (fun HT_ HW_ => ?_)
                              generalize wr.drew = w67 at HO_0 HO_3 HB hx246_0 hx247_0 hHeld ⊢
                              refine puk 0 68 ?_
                              refine puk 1 69 ?_
                              refine puk 5 73 ?_
                              refine puk 6 74 ?_
                              refine tak 2 70 ?_
                              refine puk 3 71 ?_
                              refine puk 4 72 ?_
                              refine tak 7 75 ?_
                              refine puk 8 76 ?_
                              refine puk 9 77 ?_
                              refine puk 10 78 ?_
                              refine puk 11 6 ?_
                              refine done_ (done_of HT_.out (by kernel_rfl)) ?_
                              try go_wp2
                              have n0_ := Aside0.mk (Kd.V_drew HO_0.out)
                              have n1_ := Aside0.mk (Kd.R_drew HO_3.out)
                              have n2_ := Aside0.mk (below_drew1 HB.out)
                              clear HO_0
                              clear HO_3
                              clear HB
                              have HO_0 := n0_
                              have HO_3 := n1_
                              have HB := n2_
                              clear n0_ n1_ n2_
                              have p56 : 0 ≤ ((ji53) : Int) := of_decide_eq_true (by first | (with_reducible assumption) | assumption)
                              have q56 : (ji53) < (64 : Int) := of_decide_eq_true (by first | (with_reducible assumption) | assumption)
                              have hx56 := bt_at sg64 (ji53)
                              replace p56 := eq_true p56
                              replace q56 := eq_true q56
                              have p60 : 0 ≤ ((ji57) : Int) := of_decide_eq_true (by first | (with_reducible assumption) | assumption)
                              have q60 : (ji57) < (64 : Int) := of_decide_eq_true (by first | (with_reducible assumption) | assumption)
                              have hx60 := bt_at sg64 (ji57)
                              replace p60 := eq_true p60
                              replace q60 := eq_true q60
                              have p64 : 0 ≤ ((ji61) : Int) := of_decide_eq_true (by first | (with_reducible assumption) | assumption)
                              have q64 : (ji61) < (64 : Int) := of_decide_eq_true (by first | (with_reducible assumption) | assumption)
                              have hx64 := bt_at sg64 (ji61)
                              replace p64 := eq_true p64
                              replace q64 := eq_true q64
                              refine start_ (n := 16) (S := fun w' => True) (ds := []) #[false, false, false, false, false, false, false, false, false, false, false, false, false, false, false, false] (by kernel_rfl) rfl rfl trivial (fun hHeld => ?_); refine with_tabW smjson_b64.tab12 smjson_b64.bits12 (fun HT_ HW_ => ?_)
                              generalize w67.drew = w68 at HO_0 HO_3 HB hHeld ⊢
                              refine puk 0 79 ?_
                              refine puk 1 80 ?_
                              refine puk 2 81 ?_
                              refine puk 3 82 ?_
                              refine puk 5 84 ?_
                              refine puk 6 85 ?_
                              refine puk 7 86 ?_
                              refine puk 9 88 ?_
                              refine puk 10 89 ?_
                              refine puk 11 90 ?_
                              refine tak 4 83 ?_
                              refine tak 8 87 ?_
                              refine tak 12 91 ?_
                              refine onk 13 92 (fun K hK => ?_)
                              refine Kd.R_lit_step (Kd.int .u8) _ 5 ?hg (N := 92) ?hd (xs := ([bt sg64 (ji53), bt sg64 (ji57), bt sg64 (ji61), 61] : List Int)) (inner := [.int .u8 (bt sg64 (ji53)), .int .u8 (bt sg64 (ji57)), .int .u8 (bt sg64 (ji61)), .int .u8 61]) (ok := fun _ => True) (okp := fun _ => True) ?hr ?hp (fun _ hk => hk) trivial (Below.refl _ _) (Nat.le_refl _) (by simp) ?_; (case hd => rfl); (case hg => rfl); (case hr => first | (go_simp; done) | (go_simp; rfl)); (case hp => exact (Reps.one (show Kd.M (Kd.int .u8) _ _ _ (bt sg64 (ji53)) [.int .u8 (bt sg64 (ji53))] from rfl) (Reps.one (show Kd.M (Kd.int .u8) _ _ _ (bt sg64 (ji57)) [.int .u8 (bt sg64 (ji57))] from rfl) (Reps.one (show Kd.M (Kd.int .u8) _ _ _ (bt sg64 (ji61)) [.int .u8 (bt sg64 (ji61))] from rfl) (Reps.one (show Kd.M (Kd.int .u8) _ _ _ 61 [.int .u8 61] from rfl) (Reps.none _ _))))))
                              intro v249 w69 ho70 hb hg_ hnew_
                              clear hg_ hnew_
                              (first | rw [← Ny248.out] at ho70 | (simp only [Int.reduceToNat] at ho70; rw [← Ny248.out] at ho70))
                              have n0_ := Aside0.mk (Kd.V_elder' (by (with_reducible repeat (first | apply Kd.V_alloc | apply Kd.V_drewN | apply Kd.V_drew)); exact HO_0.out) (Kd.R_base ho70) hb)
                              have n1_ := Aside0.mk (Kd.R_elder' (by (with_reducible repeat (first | apply Kd.R_alloc | apply Kd.R_drewN | apply Kd.R_drew)); exact HO_3.out) (Kd.R_base ho70) hb)
                              have n2_ := Aside0.mk (Kd.R_lower (Kd.R_new' (Kd.R_newM (M := fun k_ => (w.heap.size ≤ k_)) ho70 (below_size (by repeat (first | (with_reducible first | exact HB.out | apply below_alloc | apply pw_below_drewN | apply below_drew1) | exact HB.out))) (fun k_ h_ => h_)) (Kd.R_lt (by (with_reducible repeat (first | apply Kd.R_alloc | apply Kd.R_drewN | apply Kd.R_drew)); exact HO_3.out))) (below_size (by repeat (first | (with_reducible first | exact HB.out | apply below_alloc | apply pw_below_drewN | apply below_drew1) | exact HB.out))))
                              have n3_ := Aside0.mk (below_step (by repeat (first | (with_reducible first | exact HB.out | apply below_alloc | apply pw_below_drewN | apply below_drew1) | exact HB.out)) hb)
                              clear HO_0
                              clear HO_3
                              clear HB
                              have HO_0 := n0_
                              have HO_3 := n1_
                              have HO250 := n2_
                              have HB := n3_
                              clear n0_ n1_ n2_ n3_
                              clear hb ho70
                              obtain ⟨Ao72, co72, eo72⟩ := Kd.R_slice HO250.out
                              (first | subst eo72 | (injection eo72 with f1_ f2_ f3_; have f4_ := f1_.symm; have f5_ := f3_.symm; clear f1_ f2_ f3_; subst f4_; subst f5_))
                              refine hK.out _ _ trivial (fun hHeld => ?_)
                              clear hK K
                              refine nok 92 ?_
                              refine onk 14 93 (fun K hK => ?_)
                              refine Kd.R_append_rows_step (Kd.int .u8) (w0 := w) w.heap.size (by rfl) (.tmp 79) (.tmp 92) 22 5 (.int .u8 0) 1 rfl Tryz.underlying22 info5 rfl (by decide) (by omega) u3 x3_1 y248 _ _ _ (fun k_ => (w.heap.size ≤ k_) ∧ some k_ ≠ (.slice Ao72 y248.length co72 : Value).ownBlock) (fun _ => False) rfl rfl ?aO ?aR (fun _ _ h => h) (fun _ h => h.elim) ?aF ?aB ?aS ?aL ?_
                              (case aR => repeat (first | exact (Kd.R_reads' HO250.out).2.2 | (with_reducible refine Kd.C_alloc ?_ _) | (with_reducible refine Kd.C_drewN ?_ _) | (with_reducible refine Kd.C_drew ?_)))
                              (case aB => exact (by repeat (first | (with_reducible first | exact HB.out | apply below_alloc | apply pw_below_drewN | apply below_drew1) | exact HB.out)))
                              (case aF => exact (fun k_ hk => ⟨(Nat.le_trans (below_size (by repeat (first | (with_reducible first | exact HB.out | apply below_alloc | apply pw_below_drewN | apply below_drew1) | exact HB.out))) hk), Kd.fresh' (Kd.R_lt (by (with_reducible repeat (first | apply Kd.R_alloc | apply Kd.R_drewN | apply Kd.R_drew)); exact HO250.out)) k_ hk⟩))
                              (case aO => exact (by (with_reducible repeat (first | apply Kd.R_alloc | apply Kd.R_drewN | apply Kd.R_drew)); exact HO_3.out))
                              (case aS => exact (below_size (by repeat (first | (with_reducible first | exact HB.out | apply below_alloc | apply pw_below_drewN | apply below_drew1) | exact HB.out))))
                              (case aL => have := LMc65.out; omega)
                              intro v252 w71 ho hb hg hat
                              rw [← Ny251.out] at ho
                              have n0_ := Aside0.mk (Kd.V_afterv (ok := (fun k_ => (P0_ k_ ∨ w.heap.size ≤ k_) ∧ some k_ ≠ (.slice Ao72 y248.length co72 : Value).ownBlock)) (by (with_reducible repeat (first | apply Kd.V_alloc | apply Kd.V_drewN | apply Kd.V_drew)); exact Kd.V_mono HO_0.out (fun _ hk => ⟨⟨hk.1.1, hk.2⟩, hk.1.2⟩)) hg hat)
                              have n1_ := Aside0.mk (Kd.R_after (ok := (fun k_ => (w.heap.size ≤ k_))) (by (with_reducible repeat (first | apply Kd.R_alloc | apply Kd.R_drewN | apply Kd.R_drew)); exact Kd.R_mono HO250.out (fun _ hk => ⟨hk.1.1, hk.2⟩)) hg hat)
                              have n2_ := Aside0.mk (hb)
                              have n3_ := Aside0.mk (ho)
                              clear HO_0
                              clear HO250
                              clear HB
                              clear HO_3
                              have HO_0 := n0_
                              have HO250 := n1_
                              have HB := n2_
                              have HO253 := n3_
                              clear n0_ n1_ n2_ n3_
                              clear ho hb hg hat
                              refine hK.out _ _ trivial (fun hHeld => ?_)
                              clear hK K
                              refine nok 93 ?_
                              refine puk 15 3 ?_
                              refine done_ (done_of HT_.out (by kernel_rfl)) ?_
                              have hcv73 := own_string (P := Tryz.prog) Tryz.underlying22 Tryz.underlying5 Tryz.underlying9 (Kd.own_of_R HO253.out)
                              try go_wp2
                              go_ret
                              exact ⟨by first | rfl | (simp [errW_none, errW_some] <;> rfl) | (simp only [← hji53, ← hji57, ← hji61]; first | rfl | (simp [errW_none, errW_some] <;> rfl)) | (simp [*, errW_none, errW_some] <;> rfl), by repeat (first | (with_reducible first | exact HB.out | apply below_alloc | apply pw_below_drewN | apply below_drew1) | exact HB.out)⟩
                            · rw [if_neg c65] at H
                              exact absurd H (by simp)
                          · rw [if_neg c63] at H
                            exact absurd H (by simp)
                        · rw [if_neg c62] at H
                          exact absurd H (by simp)
                      · rw [if_neg c59] at H
                        exact absurd H (by simp)
                    · rw [if_neg c58] at H
                      exact absurd H (by simp)
                  · rw [if_neg c55] at H
                    exact absurd H (by simp)
                · rw [if_neg c54] at H
                  exact absurd H (by simp)
              · rw [if_neg c52] at H
                exact absurd H (by simp)
            · rw [if_neg c51] at H
              exact absurd H (by simp)
          · rw [if_neg c50] at H
            have c50b0 : ((x0_1.length : Int) == 2) = false := beq_eq_false_iff_ne.mpr c50
            have c50b1 : ((x0_1.length : Int) != 2) = true := bne_iff_ne.mpr c50
            obtain rfl := Option.some.inj H
            obtain ⟨Ao74, co74, eo74⟩ := Kd.V_slice HO_0.out
            subst eo74
            have hcv75 := own_string (P := Tryz.prog) Tryz.underlying22 Tryz.underlying5 Tryz.underlying9 (Kd.own_of_R HO_3.out)
            go_wp2
            go_ret
            exact ⟨by first | rfl | (simp [errW_none, errW_some] <;> rfl) | (simp [*, errW_none, errW_some] <;> rfl), by repeat (first | (with_reducible first | exact HB.out | apply below_alloc | apply pw_below_drewN | apply below_drew1) | exact HB.out)⟩

end Go.Proofs.YtkihaebaccdjdaaGreatDoor.PX
