import Derived.Test.YtkihaebaccdjdaaGreatDoorJ4
import Derived.Test.YtkihaebaccdjdaaGreatDoorJ18
import Derived.Test.YtkihaebaccdjdaaGreatDoorJ9
namespace Go.Proofs.YtkihaebaccdjdaaGreatDoor.PX
open Go.RowKit Go.Proofs.YtkihaebaccdjdaaGreatDoorW.PrintWords Go.Proofs.YtkihaebaccdjdaaGreatDoorW.PrintLast Go.Proofs.YtkihaebaccdjdaaGreatDoorW.PrintMore
attribute [local go_sem] max2_int min2_int max_two min_two max_three min_three max_four min_four   -- for this text's walks alone
set_option linter.unusedVariables false
set_option linter.unusedSimpArgs false

/-! ### spec_isChar: function 103 -/
def spec_isChar.f (a0 : Int) : Option (Bool) := if a0 = 9 then (some true) else (if a0 = 10 then (some true) else (if a0 = 13 then (some true) else (if a0 ≥ 32 then (if a0 ≤ 55295 then (some true) else (if a0 ≥ 57344 then (if a0 ≤ 65533 then (some true) else (some (decide (a0 ≥ 65536)))) else (some (decide (a0 ≥ 65536))))) else (if a0 ≥ 57344 then (if a0 ≤ 65533 then (some true) else (some (decide (a0 ≥ 65536)))) else (some (decide (a0 ≥ 65536)))))))
end Go.Proofs.YtkihaebaccdjdaaGreatDoor.PX
set_option linter.unusedVariables false
set_option linter.unusedSimpArgs false
namespace Go.Proofs.YtkihaebaccdjdaaGreatDoor
open Go.RowKit Go.Proofs.YtkihaebaccdjdaaGreatDoorW.PrintWords Go.Proofs.YtkihaebaccdjdaaGreatDoorW.PrintLast Go.Proofs.YtkihaebaccdjdaaGreatDoorW.PrintMore
namespace H
/-! ### spec.areRunes, IsUTF8, areChars -/
set_option maxRecDepth 100000 in
theorem true_call (x : Int) (w : World) : Calls Tryz.prog 53 #[.int .i32 x] w fun e w' => e = .returned (.bool true) ∧ w' = w := by
 go_enter Tryz.func53, Tryz.ntmps53
 go_wp2
 go_ret
 exact ⟨rfl, rfl⟩
set_option maxHeartbeats 8000000 in
set_option maxRecDepth 100000 in
theorem runesU (s : ByteArray) (w : World) (hs : s.size ≤ 2147483647) :
 Calls Tryz.prog 52 #[.string s, .func (.func 53) #[] #[]] w fun e w' => e = .returned (.bool (runes (fun _ => true) (s.size + 1) (bytesOf s))) ∧ Below w.heap.size w w' := by
 obtain ⟨R, hR⟩ : ∃ R, runes (fun _ => true) (s.size + 1) (bytesOf s) = R := ⟨_, rfl⟩
 rw [hR]
 obtain ⟨n0, hn0⟩ : ∃ n0, s.size = n0 := ⟨_, rfl⟩
 replace hR := Aside0.mk hR; replace hn0 := Aside0.mk hn0
 go_enter Tryz.func52, Tryz.ntmps52
 go_wp2_with fail
 go_loopg [0, 4, 5, 6, 7] (n0 + 1) (fun q v0 v4 v5 v6 v7 w' => ∃ (x : ByteArray), v0 = .string x ∧ Aside0 (x.size < q) ∧ Aside0 (x.size ≤ 2147483647) ∧ Aside0 (runes (fun _ => true) q (bytesOf x) = R) ∧ Aside0 (Below w.heap.size w w'))
 case atStart => exact ⟨s, rfl, ⟨by have := hn0.out; omega⟩, ⟨hs⟩, ⟨by rw [← hn0.out]; exact hR.out⟩, ⟨Below.refl _ _⟩⟩
 case round =>
  clear hR hn0
  obtain ⟨x, rfl, hlt, hx, hr, hB⟩ := hrel
  obtain ⟨k, rfl⟩ : ∃ k, gk = k + 1 := ⟨gk - 1, by have := hlt.out; omega⟩
  have hr2 := hr.out
  unfold runes at hr2
  by_cases h0 : x.size = 0
  ·have hb : bytesOf x = [] := List.eq_nil_of_length_eq_zero (by rw [bytesOf_length, h0])
   obtain rfl : x = ⟨#[]⟩ := by
    cases x with
    | mk d => simp [ByteArray.size] at h0; subst h0; rfl
   rw [if_pos hb] at hr2
   subst hr2
   clear hr
   go_wp2
   go_ret
   exact ⟨rfl, hB.out⟩
  ·have hbn : bytesOf x ≠ [] := fun e => h0 (by rw [← bytesOf_length, e]; rfl)
   have hie : x.toList.isEmpty = false := by
    rw [List.isEmpty_eq_false_iff]
    intro e
    have h1 : x.data.toList.length = 0 := by rw [show x.data.toList = x.toList from by simp [ByteArray.toList_eq]]; simp [e]
    rw [data_length] at h1
    exact h0 h1
   rw [if_neg hbn] at hr2
   have hcall := r0_call x wr hx.out
   have hrg : ∀ y ∈ bytesOf x, 0 ≤ y ∧ y < 256 := fun y hy => by
    unfold bytesOf at hy
    obtain ⟨u, _, rfl⟩ := List.mem_map.1 hy
    have := u.toNat_lt
    omega
   obtain ⟨y, m, b, hy⟩ : ∃ y m b, r0 (bytesOf x) = (y, m, b) := ⟨_, _, _, rfl⟩
   rw [hy] at hcall hr2
   simp only at hcall hr2
   have hlen := bytesOf_length x
   replace hcall := Aside0.mk hcall; replace hr2 := Aside0.mk hr2
   cases b with
   | false =>
     have hr3 := hr2.out
     simp only [Bool.false_and, Bool.false_eq_true, if_false] at hr3
     subst hr3
     clear hr2 hr
     go_wp2_with fail
     refine hcall.out.mono ?_
     rintro e w2 ⟨rfl, hb2⟩
     have hB2 := Aside0.mk (below_then hB.out hB.out.size hb2)
     go_wp2
     go_ret
     exact ⟨rfl, hB2.out⟩
   | true =>
     obtain ⟨ho, hm, hl⟩ := r0_inv _ hrg hy
     have hmp : 1 ≤ m := by rw [hm]; exact utf8E_pos y
     have hml : m ≤ x.size := by
      have := congrArg List.length hl
      rw [List.length_append, List.length_drop, ← hm, hlen] at this
      omega
     have hsl : ∀ w : World, (Instr.slice 9 (.string x) (some (.int .i64 (m : Int))) none none).run Tryz.prog w = .ok (.string (x.extract m x.size)) w := fun w => by
      rw [run_slice_string_from_if w 9 x .i64 m Tryz.underlying9, if_pos (by omega), Int.toNat_natCast]
     have hxs : Aside0 ((x.extract m x.size).size = x.size - m) := .mk (by simp)
     have hxb : Aside0 (bytesOf (x.extract m x.size) = (bytesOf x).drop m) := .mk (bytes_tail x m)
     have hr3 := hr2.out
     simp only [Bool.true_and] at hr3
     simp only [if_true] at hr3
     replace hr3 := Aside0.mk hr3
     clear hr2 hl hy hr hlen hm
     go_wp2_with fail
     refine hcall.out.mono ?_
     rintro e w2 ⟨rfl, hb2⟩
     have hB2 := Aside0.mk (below_then hB.out hB.out.size hb2)
     clear hb2 hcall
     go_wp2_with fail
     refine (true_call y w2).mono ?_
     rintro e w3 ⟨rfl, rfl⟩
     go_wp2_with fail
     go_roundg k
     case rel => exact ⟨_, rfl, ⟨by rw [hxs.out]; have := hlt.out; omega⟩, ⟨by rw [hxs.out]; have := hx.out; omega⟩, ⟨by rw [hxb.out]; exact hr3.out⟩, hB2⟩
     case measure => omega
set_option maxRecDepth 100000 in
theorem isU (s : ByteArray) (w : World) (hs : s.size ≤ 2147483647) :
 Calls Tryz.prog 23 #[.string s] w fun e w' => e = .returned (.bool (runes (fun _ => true) (s.size + 1) (bytesOf s))) ∧ Below w.heap.size w w' := by
 go_enter Tryz.func23, Tryz.ntmps23
 go_wp2_with fail
 refine (runesU s w hs).mono ?_
 rintro e w2 ⟨rfl, hb⟩
 replace hb := Aside0.mk hb
 go_wp2
 go_ret
 exact ⟨rfl, hb.out⟩
end H
end Go.Proofs.YtkihaebaccdjdaaGreatDoor
