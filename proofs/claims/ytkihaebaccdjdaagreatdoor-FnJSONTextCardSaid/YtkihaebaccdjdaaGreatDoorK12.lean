import Derived.Test.YtkihaebaccdjdaaGreatDoorK7
import Derived.Test.YtkihaebaccdjdaaGreatDoorK11
import Derived.Lib.ConvBytes
namespace Go.Proofs.YtkihaebaccdjdaaGreatDoor.PX
open Go.RowKit Go.Proofs.YtkihaebaccdjdaaGreatDoorW.PrintWords Go.Proofs.YtkihaebaccdjdaaGreatDoorW.PrintLast Go.Proofs.YtkihaebaccdjdaaGreatDoorW.PrintMore
attribute [local go_sem] max2_int min2_int max_two min_two max_three min_three max_four min_four   -- for this text's walks alone
set_option linter.unusedVariables false
set_option linter.unusedSimpArgs false

/-! ### smjson_safeSet: function 198 -/
def smjson_safeSet.f (a0 : Int) : Option (Bool) := if a0 ≥ 32 then (if a0 = 34 then (some false) else (some (a0 != 92))) else (some false)
set_option maxHeartbeats 8000000 in
set_option maxRecDepth 100000 in
theorem smjson_safeSet.calls (a0 : Int) (r : Bool) (w : World) (h : smjson_safeSet.f a0 = some r) :
    Calls Tryz.prog 198 #[.int .u8 a0] w fun e w' => e = .returned (.bool r) ∧ Drawn0 w w' := by
  have H : (if a0 ≥ 32 then (if a0 = 34 then (some false) else (some (a0 != 92))) else (some false)) = some r := h
  clear h
  by_cases c2 : a0 ≥ 32
  · rw [if_pos c2] at H
    have c2b0 : decide (32 ≤ a0) = true := decide_eq_true c2
    clear c2
    by_cases c3 : a0 = 34
    · rw [if_pos c3] at H
      have c3b0 : (a0 == 34) = true := beq_iff_eq.mpr c3
      have c3b1 : (a0 != 34) = false := bne_eq_false_iff_eq.mpr c3
      clear c3
      obtain rfl := Option.some.inj H
      go_enter Tryz.func198, Tryz.ntmps198
      go_wp2
      go_ret
      exact ⟨by first | rfl | (simp; done) | (simp [*]; done), by repeat (first | exact Drawn0.refl _ | apply Drawn0.step)⟩
    · rw [if_neg c3] at H
      have c3b0 : (a0 == 34) = false := beq_eq_false_iff_ne.mpr c3
      have c3b1 : (a0 != 34) = true := bne_iff_ne.mpr c3
      obtain rfl := Option.some.inj H
      go_enter Tryz.func198, Tryz.ntmps198
      go_wp2
      go_ret
      exact ⟨by first | rfl | (simp; done) | (simp [*]; done), by repeat (first | exact Drawn0.refl _ | apply Drawn0.step)⟩
  · rw [if_neg c2] at H
    have c2b0 : decide (32 ≤ a0) = false := decide_eq_false c2
    clear c2
    obtain rfl := Option.some.inj H
    go_enter Tryz.func198, Tryz.ntmps198
    go_wp2
    go_ret
    exact ⟨by first | rfl | (simp; done) | (simp [*]; done), by repeat (first | exact Drawn0.refl _ | apply Drawn0.step)⟩

end Go.Proofs.YtkihaebaccdjdaaGreatDoor.PX
set_option linter.unusedVariables false
set_option linter.unusedSimpArgs false
namespace Go.Proofs.YtkihaebaccdjdaaGreatDoor
open Go.RowKit Go.Proofs.YtkihaebaccdjdaaGreatDoorW.PrintWords Go.Proofs.YtkihaebaccdjdaaGreatDoorW.PrintLast Go.Proofs.YtkihaebaccdjdaaGreatDoorW.PrintMore
open Go.Lib (bytesWorld bytesCells bytesWorld_at_new bytesWorld_at_old bytesWorld_size)
namespace H
/-! ### A block of bytes: of the call's own, or made of a string -/
/-- The block g holds the bytes zs, and may be written. -/
def BAt (w : World) (g : Nat) (zs : List Int) : Prop :=
  ∃ fr : Nat × Nat, w.heap[g]? = some (.cells (nums .u8 zs).toArray 5 fr) ∧ (fr = (0, 0) ∨ fr = (zs.length, zs.length + 1))
theorem BAt.fr {S : Nat → Prop} {w w' : World} {g : Nat} {zs : List Int} (h : BAt w g zs) (hf : Fr S w w') (hn : ¬ S g) : BAt w' g zs := by
  obtain ⟨fr, h1, h2⟩ := h
  exact ⟨fr, hf.heap h1 hn, h2⟩
theorem BAt.below {w w' : World} {g : Nat} {zs : List Int} (h : BAt w g zs) (hb : Below w.heap.size w w') : BAt w' g zs :=
  h.fr (Fr.of_below (S := fun _ => False) hb) (fun h => h)
theorem BAt.lt {w : World} {g : Nat} {zs : List Int} (h : BAt w g zs) : g < w.heap.size := by obtain ⟨fr, h1, _⟩ := h; exact lt_of h1
theorem plain_add (g o j : Nat) : (⟨g, o, none⟩ : Addr).add j = ⟨g, o + j, none⟩ := by unfold Addr.add; split <;> simp_all
theorem nums_get (k : IntKind) (xs : List Int) (i : Nat) (h : i < xs.length) : (nums k xs)[i]? = some (.int k (xs.getD i 0)) := by
  simp [nums, h, List.getD_eq_getElem?_getD]
theorem BAt.cell {w : World} {g : Nat} {zs : List Int} (h : BAt w g zs) (i : Nat) (hi : i < zs.length) : w.cell? ⟨g, i, none⟩ = some (.int .u8 (zs.getD i 0)) := by
  obtain ⟨fr, h1, _⟩ := h
  rw [cell_at h1, List.getElem?_toArray, nums_get _ _ _ hi]
/-- What a string's bytes, and the noughts behind them, are. -/
def strZs (w : World) (s : ByteArray) : List Int := bytesOf s ++ List.replicate (grownCap w s.size 0 5 - s.size) 0
theorem strZs_length (w : World) (s : ByteArray) : (strZs w s).length = grownCap w s.size 0 5 := by
  have := grownCap_ge w s.size 0 5
  simp [strZs, bytesOf_length]; omega
theorem strZs_take (w : World) (s : ByteArray) : (strZs w s).take s.size = bytesOf s := by
  rw [strZs, List.take_append_of_le_length (by rw [bytesOf_length]; exact Nat.le_refl _), List.take_of_length_le (by rw [bytesOf_length]; exact Nat.le_refl _)]
theorem BAt.of_string (w : World) (s : ByteArray) : BAt (bytesWorld w 5 s) w.heap.size (strZs w s) := by
  refine ⟨_, ?_, .inr rfl⟩
  rw [bytesWorld_at_new w 5 s]
  have e : bytesCells w 5 s = (nums .u8 (strZs w s)).toArray := by
    apply Array.ext'
    simp [bytesCells, strZs, nums, bytesOf]
  rw [e]
  simp [nums_length]
theorem bytesWorld_below (w : World) (s : ByteArray) : Below w.heap.size w (bytesWorld w 5 s) :=
  ⟨rfl, rfl, rfl, by rw [bytesWorld_size]; omega, fun k hk => bytesWorld_at_old w 5 s k hk⟩
theorem cut_cell {w : World} {g : Nat} {zs : List Int} (h : BAt w g zs) (a cnt j : Nat) (hc : a + cnt ≤ zs.length) (hj : j < ((zs.drop a).take cnt).length) :
    w.cell? ((⟨g, a, none⟩ : Addr).add j) = some (.int .u8 (((zs.drop a).take cnt).getD j 0)) := by
  have hj2 : j < cnt := by simp at hj; omega
  rw [plain_add, h.cell (a + j) (by omega)]
  congr 2
  rw [List.getD_eq_getElem?_getD, List.getD_eq_getElem?_getD, List.getElem?_take, if_pos hj2, List.getElem?_drop]
end H
end Go.Proofs.YtkihaebaccdjdaaGreatDoor
