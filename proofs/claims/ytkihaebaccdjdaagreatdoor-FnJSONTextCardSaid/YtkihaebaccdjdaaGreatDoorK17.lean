import Derived.Test.YtkihaebaccdjdaaGreatDoorK16
import Derived.Shelf.Unicode.DecodeSlow
set_option linter.unusedVariables false
set_option linter.unusedSimpArgs false
namespace Go.Proofs.YtkihaebaccdjdaaGreatDoor
open Go.RowKit Go.Proofs.YtkihaebaccdjdaaGreatDoorW.PrintWords Go.Proofs.YtkihaebaccdjdaaGreatDoorW.PrintLast Go.Proofs.YtkihaebaccdjdaaGreatDoorW.PrintMore
open Go.Lib (firstT accLo accHi slowN decodeN)
namespace H
/-! ### utf8.decodeRuneSlow over a block of bytes -/
theorem cell_lt {w : World} {a : Addr} {v : Value} (hc : w.cell? a = some v) : a.block < w.heap.size := by
  rcases Nat.lt_or_ge a.block w.heap.size with h' | h'
  · exact h'
  · simp [World.cell?, Array.getElem?_eq_none h'] at hc
theorem cell_al {w : World} {a : Addr} {v : Value} (o : Obj) (hc : w.cell? a = some v) : (w.alloc o).cell? a = some v :=
  ((below_alloc (Below.refl w.heap.size w) o).cell (cell_lt hc)).trans hc
set_option maxHeartbeats 4000000 in
set_option maxRecDepth 1000000 in
theorem decSlow (w : World) (g i m cc x0 x1 x2 x3 : Nat) (hm : 0 < m) (l0 : x0 < 256) (l1 : x1 < 256) (l2 : x2 < 256) (l3 : x3 < 256) (hT : Lib.Utf8Tabs 2 3 w)
    (b0 : w.cell? ⟨g, i, none⟩ = some (.int .u8 x0)) (b1 : 1 < m → w.cell? ⟨g, i + 1, none⟩ = some (.int .u8 x1)) (b2 : 2 < m → w.cell? ⟨g, i + 2, none⟩ = some (.int .u8 x2)) (b3 : 3 < m → w.cell? ⟨g, i + 3, none⟩ = some (.int .u8 x3)) :
    Calls Tryz.prog 233 #[.slice (some ⟨g, i, none⟩) m cc] w fun e w' => e = .returned (.tuple #[.int .i32 (decodeN m x0 x1 x2 x3).1, .int .i64 (decodeN m x0 x1 x2 x3).2]) ∧ Below w.heap.size w w' := by
  have hgl : g < w.heap.size := cell_lt b0
  have hz0 : (0 : Int) < (m : Int) := by omega
  have hz0' : ¬ ((m : Int) < 1) := by omega
  have hc0 := hT.1 x0 (by omega)
  have hres : firstT x0 < 240 → decodeN m x0 x1 x2 x3 = slowN m x0 x1 x2 x3 (firstT x0 % 8) (accLo (firstT x0 / 16)) (accHi (firstT x0 / 16)) :=
    fun h => (Lib.slow_eq _ _ _ _ _ (by omega) (by omega) (by omega) (by omega) h).symm
  rcases Lib.firstT_cases x0 with hX | hX | hX | hX | hX | hX | hX | hX | hX
  · rw [Lib.ascii_eq _ _ _ _ _ hX]
    rw [hX] at hc0
    clear hres hT hX b1 b2 b3
    go_enter Tryz.func233, Tryz.ntmps233
    go_wp2
    rw [Utf8W.mask240, Utf8W.keep_byte ⟨x0, l0⟩]
    go_ret2
    exact ⟨rfl, Below.refl _ _⟩
  · rw [Lib.bad_eq _ _ _ _ _ (by omega) hX]
    rw [hX] at hc0
    clear hres hT hX b1 b2 b3
    go_enter Tryz.func233, Tryz.ntmps233
    go_wp2
    rw [Utf8W.mask241, Utf8W.drop_byte ⟨x0, l0⟩]
    go_ret2
    exact ⟨rfl, Below.refl _ _⟩
  all_goals replace hres := hres (by omega)
  · rw [hX] at hc0 hres
    have ha0 := (hT.2 0 (by omega)).1
    have ha1 := (hT.2 0 (by omega)).2
    simp only [accLo, accHi, Nat.reduceMul, Nat.reduceAdd, Nat.reduceEqDiff, if_true, if_false, Nat.reduceMod, Nat.reduceDiv] at ha0 ha1 hres
    rw [hres]
    clear hres hT hX
    by_cases hn : m < 2
    · have hnz : (m : Int) < 2 := by omega
      clear b1 b2 b3
      go_enter Tryz.func233, Tryz.ntmps233
      go_wp2
      all_goals (go_ret2; refine ⟨?_, (Below.refl _ _).alloc (Nat.le_refl _) _⟩; (unfold slowN; (repeat' split); all_goals first | (exfalso; omega) | rfl | (simp only [Int.natCast_add, Int.natCast_mul, Int.natCast_emod, Int.natCast_ofNat]; rfl)))
    · have hz1 : (1 : Int) < (m : Int) := by omega
      have c1 := cell_al (.cells #[.int .u8 128, .int .u8 191] 275) (b1 (by omega))
      clear b1 b2 b3
      go_enter Tryz.func233, Tryz.ntmps233
      go_wp2
      all_goals (go_ret2; refine ⟨?_, (Below.refl _ _).alloc (Nat.le_refl _) _⟩; (unfold slowN; (repeat' split); all_goals first | (exfalso; omega) | rfl | (simp only [Int.natCast_add, Int.natCast_mul, Int.natCast_emod, Int.natCast_ofNat]; rfl)))
  · rw [hX] at hc0 hres
    have ha0 := (hT.2 1 (by omega)).1
    have ha1 := (hT.2 1 (by omega)).2
    simp only [accLo, accHi, Nat.reduceMul, Nat.reduceAdd, Nat.reduceEqDiff, if_true, if_false, Nat.reduceMod, Nat.reduceDiv] at ha0 ha1 hres
    rw [hres]
    clear hres hT hX
    by_cases hn : m < 3
    · have hnz : (m : Int) < 3 := by omega
      clear b1 b2 b3
      go_enter Tryz.func233, Tryz.ntmps233
      go_wp2
      all_goals (go_ret2; refine ⟨?_, (Below.refl _ _).alloc (Nat.le_refl _) _⟩; (unfold slowN; (repeat' split); all_goals first | (exfalso; omega) | rfl | (simp only [Int.natCast_add, Int.natCast_mul, Int.natCast_emod, Int.natCast_ofNat]; rfl)))
    · have hz1 : (1 : Int) < (m : Int) := by omega
      have c1 := cell_al (.cells #[.int .u8 160, .int .u8 191] 275) (b1 (by omega))
      have hz2 : (2 : Int) < (m : Int) := by omega
      have c2 := cell_al (.cells #[.int .u8 160, .int .u8 191] 275) (b2 (by omega))
      clear b1 b2 b3
      go_enter Tryz.func233, Tryz.ntmps233
      go_wp2
      all_goals (go_ret2; refine ⟨?_, (Below.refl _ _).alloc (Nat.le_refl _) _⟩; (unfold slowN; (repeat' split); all_goals first | (exfalso; omega) | rfl | (simp only [Int.natCast_add, Int.natCast_mul, Int.natCast_emod, Int.natCast_ofNat]; rfl)))
  · rw [hX] at hc0 hres
    have ha0 := (hT.2 0 (by omega)).1
    have ha1 := (hT.2 0 (by omega)).2
    simp only [accLo, accHi, Nat.reduceMul, Nat.reduceAdd, Nat.reduceEqDiff, if_true, if_false, Nat.reduceMod, Nat.reduceDiv] at ha0 ha1 hres
    rw [hres]
    clear hres hT hX
    by_cases hn : m < 3
    · have hnz : (m : Int) < 3 := by omega
      clear b1 b2 b3
      go_enter Tryz.func233, Tryz.ntmps233
      go_wp2
      all_goals (go_ret2; refine ⟨?_, (Below.refl _ _).alloc (Nat.le_refl _) _⟩; (unfold slowN; (repeat' split); all_goals first | (exfalso; omega) | rfl | (simp only [Int.natCast_add, Int.natCast_mul, Int.natCast_emod, Int.natCast_ofNat]; rfl)))
    · have hz1 : (1 : Int) < (m : Int) := by omega
      have c1 := cell_al (.cells #[.int .u8 128, .int .u8 191] 275) (b1 (by omega))
      have hz2 : (2 : Int) < (m : Int) := by omega
      have c2 := cell_al (.cells #[.int .u8 128, .int .u8 191] 275) (b2 (by omega))
      clear b1 b2 b3
      go_enter Tryz.func233, Tryz.ntmps233
      go_wp2
      all_goals (go_ret2; refine ⟨?_, (Below.refl _ _).alloc (Nat.le_refl _) _⟩; (unfold slowN; (repeat' split); all_goals first | (exfalso; omega) | rfl | (simp only [Int.natCast_add, Int.natCast_mul, Int.natCast_emod, Int.natCast_ofNat]; rfl)))
  · rw [hX] at hc0 hres
    have ha0 := (hT.2 2 (by omega)).1
    have ha1 := (hT.2 2 (by omega)).2
    simp only [accLo, accHi, Nat.reduceMul, Nat.reduceAdd, Nat.reduceEqDiff, if_true, if_false, Nat.reduceMod, Nat.reduceDiv] at ha0 ha1 hres
    rw [hres]
    clear hres hT hX
    by_cases hn : m < 3
    · have hnz : (m : Int) < 3 := by omega
      clear b1 b2 b3
      go_enter Tryz.func233, Tryz.ntmps233
      go_wp2
      all_goals (go_ret2; refine ⟨?_, (Below.refl _ _).alloc (Nat.le_refl _) _⟩; (unfold slowN; (repeat' split); all_goals first | (exfalso; omega) | rfl | (simp only [Int.natCast_add, Int.natCast_mul, Int.natCast_emod, Int.natCast_ofNat]; rfl)))
    · have hz1 : (1 : Int) < (m : Int) := by omega
      have c1 := cell_al (.cells #[.int .u8 128, .int .u8 159] 275) (b1 (by omega))
      have hz2 : (2 : Int) < (m : Int) := by omega
      have c2 := cell_al (.cells #[.int .u8 128, .int .u8 159] 275) (b2 (by omega))
      clear b1 b2 b3
      go_enter Tryz.func233, Tryz.ntmps233
      go_wp2
      all_goals (go_ret2; refine ⟨?_, (Below.refl _ _).alloc (Nat.le_refl _) _⟩; (unfold slowN; (repeat' split); all_goals first | (exfalso; omega) | rfl | (simp only [Int.natCast_add, Int.natCast_mul, Int.natCast_emod, Int.natCast_ofNat]; rfl)))
  · rw [hX] at hc0 hres
    have ha0 := (hT.2 3 (by omega)).1
    have ha1 := (hT.2 3 (by omega)).2
    simp only [accLo, accHi, Nat.reduceMul, Nat.reduceAdd, Nat.reduceEqDiff, if_true, if_false, Nat.reduceMod, Nat.reduceDiv] at ha0 ha1 hres
    rw [hres]
    clear hres hT hX
    by_cases hn : m < 4
    · have hnz : (m : Int) < 4 := by omega
      clear b1 b2 b3
      go_enter Tryz.func233, Tryz.ntmps233
      go_wp2
      all_goals (go_ret2; refine ⟨?_, (Below.refl _ _).alloc (Nat.le_refl _) _⟩; (unfold slowN; (repeat' split); all_goals first | (exfalso; omega) | rfl | (simp only [Int.natCast_add, Int.natCast_mul, Int.natCast_emod, Int.natCast_ofNat]; rfl)))
    · have hz1 : (1 : Int) < (m : Int) := by omega
      have c1 := cell_al (.cells #[.int .u8 144, .int .u8 191] 275) (b1 (by omega))
      have hz2 : (2 : Int) < (m : Int) := by omega
      have c2 := cell_al (.cells #[.int .u8 144, .int .u8 191] 275) (b2 (by omega))
      have hz3 : (3 : Int) < (m : Int) := by omega
      have c3 := cell_al (.cells #[.int .u8 144, .int .u8 191] 275) (b3 (by omega))
      clear b1 b2 b3
      go_enter Tryz.func233, Tryz.ntmps233
      go_wp2
      all_goals (go_ret2; refine ⟨?_, (Below.refl _ _).alloc (Nat.le_refl _) _⟩; (unfold slowN; (repeat' split); all_goals first | (exfalso; omega) | rfl | (simp only [Int.natCast_add, Int.natCast_mul, Int.natCast_emod, Int.natCast_ofNat]; rfl)))
  · rw [hX] at hc0 hres
    have ha0 := (hT.2 0 (by omega)).1
    have ha1 := (hT.2 0 (by omega)).2
    simp only [accLo, accHi, Nat.reduceMul, Nat.reduceAdd, Nat.reduceEqDiff, if_true, if_false, Nat.reduceMod, Nat.reduceDiv] at ha0 ha1 hres
    rw [hres]
    clear hres hT hX
    by_cases hn : m < 4
    · have hnz : (m : Int) < 4 := by omega
      clear b1 b2 b3
      go_enter Tryz.func233, Tryz.ntmps233
      go_wp2
      all_goals (go_ret2; refine ⟨?_, (Below.refl _ _).alloc (Nat.le_refl _) _⟩; (unfold slowN; (repeat' split); all_goals first | (exfalso; omega) | rfl | (simp only [Int.natCast_add, Int.natCast_mul, Int.natCast_emod, Int.natCast_ofNat]; rfl)))
    · have hz1 : (1 : Int) < (m : Int) := by omega
      have c1 := cell_al (.cells #[.int .u8 128, .int .u8 191] 275) (b1 (by omega))
      have hz2 : (2 : Int) < (m : Int) := by omega
      have c2 := cell_al (.cells #[.int .u8 128, .int .u8 191] 275) (b2 (by omega))
      have hz3 : (3 : Int) < (m : Int) := by omega
      have c3 := cell_al (.cells #[.int .u8 128, .int .u8 191] 275) (b3 (by omega))
      clear b1 b2 b3
      go_enter Tryz.func233, Tryz.ntmps233
      go_wp2
      all_goals (go_ret2; refine ⟨?_, (Below.refl _ _).alloc (Nat.le_refl _) _⟩; (unfold slowN; (repeat' split); all_goals first | (exfalso; omega) | rfl | (simp only [Int.natCast_add, Int.natCast_mul, Int.natCast_emod, Int.natCast_ofNat]; rfl)))
  · rw [hX] at hc0 hres
    have ha0 := (hT.2 4 (by omega)).1
    have ha1 := (hT.2 4 (by omega)).2
    simp only [accLo, accHi, Nat.reduceMul, Nat.reduceAdd, Nat.reduceEqDiff, if_true, if_false, Nat.reduceMod, Nat.reduceDiv] at ha0 ha1 hres
    rw [hres]
    clear hres hT hX
    by_cases hn : m < 4
    · have hnz : (m : Int) < 4 := by omega
      clear b1 b2 b3
      go_enter Tryz.func233, Tryz.ntmps233
      go_wp2
      all_goals (go_ret2; refine ⟨?_, (Below.refl _ _).alloc (Nat.le_refl _) _⟩; (unfold slowN; (repeat' split); all_goals first | (exfalso; omega) | rfl | (simp only [Int.natCast_add, Int.natCast_mul, Int.natCast_emod, Int.natCast_ofNat]; rfl)))
    · have hz1 : (1 : Int) < (m : Int) := by omega
      have c1 := cell_al (.cells #[.int .u8 128, .int .u8 143] 275) (b1 (by omega))
      have hz2 : (2 : Int) < (m : Int) := by omega
      have c2 := cell_al (.cells #[.int .u8 128, .int .u8 143] 275) (b2 (by omega))
      have hz3 : (3 : Int) < (m : Int) := by omega
      have c3 := cell_al (.cells #[.int .u8 128, .int .u8 143] 275) (b3 (by omega))
      clear b1 b2 b3
      go_enter Tryz.func233, Tryz.ntmps233
      go_wp2
      all_goals (go_ret2; refine ⟨?_, (Below.refl _ _).alloc (Nat.le_refl _) _⟩; (unfold slowN; (repeat' split); all_goals first | (exfalso; omega) | rfl | (simp only [Int.natCast_add, Int.natCast_mul, Int.natCast_emod, Int.natCast_ofNat]; rfl)))
end H
end Go.Proofs.YtkihaebaccdjdaaGreatDoor
