import Derived.Test.YtkihaebaccdjdaaGreatDoorX5
import Derived.Test.YtkihaebaccdjdaaGreatDoorX27
import Derived.Test.YtkihaebaccdjdaaGreatDoorX14
namespace Go.Proofs.YtkihaebaccdjdaaGreatDoor.PX
open Go.RowKit Go.Proofs.YtkihaebaccdjdaaGreatDoorW.PrintWords Go.Proofs.YtkihaebaccdjdaaGreatDoorW.PrintLast Go.Proofs.YtkihaebaccdjdaaGreatDoorW.PrintMore
attribute [local go_sem] max2_int min2_int max_two min_two max_three min_three max_four min_four   -- for this text's walks alone
set_option linter.unusedVariables false
set_option linter.unusedSimpArgs false

/-! ### spec_isChar: function 103 -/
def spec_isChar.f (a0 : Int) : Option (Bool) := if a0 = 9 then (some true) else (if a0 = 10 then (some true) else (if a0 = 13 then (some true) else (if a0 ≥ 32 then (if a0 ≤ 55295 then (some true) else (if a0 ≥ 57344 then (if a0 ≤ 65533 then (some true) else (some (decide (a0 ≥ 65536)))) else (some (decide (a0 ≥ 65536))))) else (if a0 ≥ 57344 then (if a0 ≤ 65533 then (some true) else (some (decide (a0 ≥ 65536)))) else (some (decide (a0 ≥ 65536)))))))
set_option maxHeartbeats 8000000 in
set_option maxRecDepth 100000 in
theorem spec_isChar.calls (a0 : Int) (r : Bool) (w : World) (h : spec_isChar.f a0 = some r) :
 Calls Tryz.prog 103 #[.int .i32 a0] w fun e w' => e = .returned (.bool r) ∧ Drawn0 w w' := by
 have H : (if a0 = 9 then (some true) else (if a0 = 10 then (some true) else (if a0 = 13 then (some true) else (if a0 ≥ 32 then (if a0 ≤ 55295 then (some true) else (if a0 ≥ 57344 then (if a0 ≤ 65533 then (some true) else (some (decide (a0 ≥ 65536)))) else (some (decide (a0 ≥ 65536))))) else (if a0 ≥ 57344 then (if a0 ≤ 65533 then (some true) else (some (decide (a0 ≥ 65536)))) else (some (decide (a0 ≥ 65536)))))))) = some r := h
 clear h
 by_cases c2 : a0 = 9
 ·rw [if_pos c2] at H
  have c2b0 : (a0 == 9) = true := beq_iff_eq.mpr c2
  have c2b1 : (a0 != 9) = false := bne_eq_false_iff_eq.mpr c2
  clear c2
  obtain rfl := Option.some.inj H
  go_enter Tryz.func103, Tryz.ntmps103
  go_wp2
  go_ret
  exact ⟨by first | rfl | (simp; done) | (simp [*]; done), by repeat (first | exact Drawn0.refl _ | apply Drawn0.step)⟩
 ·rw [if_neg c2] at H
  have c2b0 : (a0 == 9) = false := beq_eq_false_iff_ne.mpr c2
  have c2b1 : (a0 != 9) = true := bne_iff_ne.mpr c2
  by_cases c3 : a0 = 10
  ·rw [if_pos c3] at H
   have c3b0 : (a0 == 10) = true := beq_iff_eq.mpr c3
   have c3b1 : (a0 != 10) = false := bne_eq_false_iff_eq.mpr c3
   clear c3
   obtain rfl := Option.some.inj H
   go_enter Tryz.func103, Tryz.ntmps103
   go_wp2
   go_ret
   exact ⟨by first | rfl | (simp; done) | (simp [*]; done), by repeat (first | exact Drawn0.refl _ | apply Drawn0.step)⟩
  ·rw [if_neg c3] at H
   have c3b0 : (a0 == 10) = false := beq_eq_false_iff_ne.mpr c3
   have c3b1 : (a0 != 10) = true := bne_iff_ne.mpr c3
   by_cases c4 : a0 = 13
   ·rw [if_pos c4] at H
    have c4b0 : (a0 == 13) = true := beq_iff_eq.mpr c4
    have c4b1 : (a0 != 13) = false := bne_eq_false_iff_eq.mpr c4
    clear c4
    obtain rfl := Option.some.inj H
    go_enter Tryz.func103, Tryz.ntmps103
    go_wp2
    go_ret
    exact ⟨by first | rfl | (simp; done) | (simp [*]; done), by repeat (first | exact Drawn0.refl _ | apply Drawn0.step)⟩
   ·rw [if_neg c4] at H
    have c4b0 : (a0 == 13) = false := beq_eq_false_iff_ne.mpr c4
    have c4b1 : (a0 != 13) = true := bne_iff_ne.mpr c4
    by_cases c5 : a0 ≥ 32
    ·rw [if_pos c5] at H
     have c5b0 : decide (32 ≤ a0) = true := decide_eq_true c5
     clear c5
     by_cases c6 : a0 ≤ 55295
     ·rw [if_pos c6] at H
      have c6b0 : decide (a0 ≤ 55295) = true := decide_eq_true c6
      clear c6
      obtain rfl := Option.some.inj H
      go_enter Tryz.func103, Tryz.ntmps103
      go_wp2
      go_ret
      exact ⟨by first | rfl | (simp; done) | (simp [*]; done), by repeat (first | exact Drawn0.refl _ | apply Drawn0.step)⟩
     ·rw [if_neg c6] at H
      have c6b0 : decide (a0 ≤ 55295) = false := decide_eq_false c6
      clear c6
      by_cases c7 : a0 ≥ 57344
      ·rw [if_pos c7] at H
       have c7b0 : decide (57344 ≤ a0) = true := decide_eq_true c7
       clear c7
       by_cases c8 : a0 ≤ 65533
       ·rw [if_pos c8] at H
        have c8b0 : decide (a0 ≤ 65533) = true := decide_eq_true c8
        clear c8
        obtain rfl := Option.some.inj H
        go_enter Tryz.func103, Tryz.ntmps103
        go_wp2
        go_ret
        exact ⟨by first | rfl | (simp; done) | (simp [*]; done), by repeat (first | exact Drawn0.refl _ | apply Drawn0.step)⟩
       ·rw [if_neg c8] at H
        have c8b0 : decide (a0 ≤ 65533) = false := decide_eq_false c8
        clear c8
        obtain rfl := Option.some.inj H
        go_enter Tryz.func103, Tryz.ntmps103
        go_wp2
        go_ret
        exact ⟨by first | rfl | (simp; done) | (simp [*]; done), by repeat (first | exact Drawn0.refl _ | apply Drawn0.step)⟩
      ·rw [if_neg c7] at H
       have c7b0 : decide (57344 ≤ a0) = false := decide_eq_false c7
       clear c7
       obtain rfl := Option.some.inj H
       go_enter Tryz.func103, Tryz.ntmps103
       go_wp2
       go_ret
       exact ⟨by first | rfl | (simp; done) | (simp [*]; done), by repeat (first | exact Drawn0.refl _ | apply Drawn0.step)⟩
    ·rw [if_neg c5] at H
     have c5b0 : decide (32 ≤ a0) = false := decide_eq_false c5
     clear c5
     by_cases c9 : a0 ≥ 57344
     ·rw [if_pos c9] at H
      have c9b0 : decide (57344 ≤ a0) = true := decide_eq_true c9
      clear c9
      by_cases c10 : a0 ≤ 65533
      ·rw [if_pos c10] at H
       have c10b0 : decide (a0 ≤ 65533) = true := decide_eq_true c10
       clear c10
       obtain rfl := Option.some.inj H
       go_enter Tryz.func103, Tryz.ntmps103
       go_wp2
       go_ret
       exact ⟨by first | rfl | (simp; done) | (simp [*]; done), by repeat (first | exact Drawn0.refl _ | apply Drawn0.step)⟩
      ·rw [if_neg c10] at H
       have c10b0 : decide (a0 ≤ 65533) = false := decide_eq_false c10
       clear c10
       obtain rfl := Option.some.inj H
       go_enter Tryz.func103, Tryz.ntmps103
       go_wp2
       go_ret
       exact ⟨by first | rfl | (simp; done) | (simp [*]; done), by repeat (first | exact Drawn0.refl _ | apply Drawn0.step)⟩
     ·rw [if_neg c9] at H
      have c9b0 : decide (57344 ≤ a0) = false := decide_eq_false c9
      clear c9
      obtain rfl := Option.some.inj H
      go_enter Tryz.func103, Tryz.ntmps103
      go_wp2
      go_ret
      exact ⟨by first | rfl | (simp; done) | (simp [*]; done), by repeat (first | exact Drawn0.refl _ | apply Drawn0.step)⟩

end Go.Proofs.YtkihaebaccdjdaaGreatDoor.PX
set_option linter.unusedVariables false
set_option linter.unusedSimpArgs false
namespace Go.Proofs.YtkihaebaccdjdaaGreatDoor
open Go.RowKit Go.Proofs.YtkihaebaccdjdaaGreatDoorW.PrintWords Go.Proofs.YtkihaebaccdjdaaGreatDoorW.PrintLast Go.Proofs.YtkihaebaccdjdaaGreatDoorW.PrintMore
namespace H
/-! ### spec.areRunes, IsUTF8, areChars -/
set_option maxRecDepth 100000 in
theorem true_call (x : Int) (w : World) : Calls Tryz.prog 53 #[.int .i32 x] w fun e w' => e = .returned (.bool true) ∧ w' = w := by
 go_enter Tryz.func53, Tryz.ntmps53
 go_wp2
 go_ret
 exact ⟨rfl, rfl⟩
theorem charB_f (x : Int) : PX.spec_isChar.f x = some (charB x) := by
 unfold PX.spec_isChar.f charB
 repeat' split
 all_goals
  congr 1
  first | (symm; apply decide_eq_true; omega) | (apply decide_eq_decide.2; omega)
set_option maxHeartbeats 8000000 in
set_option maxRecDepth 100000 in
theorem runesU (s : ByteArray) (w : World) (hs : s.size ≤ 2147483647) :
 Calls Tryz.prog 52 #[.string s, .func (.func 53) #[] #[]] w fun e w' => e = .returned (.bool (runes (fun _ => true) (s.size + 1) (bytesOf s))) ∧ Below w.heap.size w w' := by
 obtain ⟨R, hR⟩ : ∃ R, runes (fun _ => true) (s.size + 1) (bytesOf s) = R := ⟨_, rfl⟩
 rw [hR]
 obtain ⟨n0, hn0⟩ : ∃ n0, s.size = n0 := ⟨_, rfl⟩
 replace hR := Aside0.mk hR; replace hn0 := Aside0.mk hn0
 go_enter Tryz.func52, Tryz.ntmps52
 go_wp2_with fail
 go_loopg [0, 4, 5, 6, 7] (n0 + 1) (fun q v0 v4 v5 v6 v7 w' => ∃ (x : ByteArray), v0 = .string x ∧ Aside0 (x.size < q) ∧ Aside0 (x.size ≤ 2147483647) ∧ Aside0 (runes (fun _ => true) q (bytesOf x) = R) ∧ Aside0 (Below w.heap.size w w'))
 case atStart => exact ⟨s, rfl, ⟨by have := hn0.out; omega⟩, ⟨hs⟩, ⟨by rw [← hn0.out]; exact hR.out⟩, ⟨Below.refl _ _⟩⟩
 case round =>
  clear hR hn0
  obtain ⟨x, rfl, hlt, hx, hr, hB⟩ := hrel
  obtain ⟨k, rfl⟩ : ∃ k, gk = k + 1 := ⟨gk - 1, by have := hlt.out; omega⟩
  have hr2 := hr.out
  unfold runes at hr2
  by_cases h0 : x.size = 0
  ·have hb : bytesOf x = [] := List.eq_nil_of_length_eq_zero (by rw [bytesOf_length, h0])
   obtain rfl : x = ⟨#[]⟩ := by
    cases x with
    | mk d => simp [ByteArray.size] at h0; subst h0; rfl
   rw [if_pos hb] at hr2
   subst hr2
   clear hr
   go_wp2
   go_ret
   exact ⟨rfl, hB.out⟩
  ·have hbn : bytesOf x ≠ [] := fun e => h0 (by rw [← bytesOf_length, e]; rfl)
   have hie : x.toList.isEmpty = false := by
    rw [List.isEmpty_eq_false_iff]
    intro e
    have h1 : x.data.toList.length = 0 := by rw [show x.data.toList = x.toList from by simp [ByteArray.toList_eq]]; simp [e]
    rw [data_length] at h1
    exact h0 h1
   rw [if_neg hbn] at hr2
   have hcall := r0_call x wr hx.out
   have hrg : ∀ y ∈ bytesOf x, 0 ≤ y ∧ y < 256 := fun y hy => by
    unfold bytesOf at hy
    obtain ⟨u, _, rfl⟩ := List.mem_map.1 hy
    have := u.toNat_lt
    omega
   obtain ⟨y, m, b, hy⟩ : ∃ y m b, r0 (bytesOf x) = (y, m, b) := ⟨_, _, _, rfl⟩
   rw [hy] at hcall hr2
   simp only at hcall hr2
   have hlen := bytesOf_length x
   replace hcall := Aside0.mk hcall; replace hr2 := Aside0.mk hr2
   cases b with
   | false =>
     have hr3 := hr2.out
     simp only [Bool.false_and, Bool.false_eq_true, if_false] at hr3
     subst hr3
     clear hr2 hr
     go_wp2_with fail
     refine hcall.out.mono ?_
     rintro e w2 ⟨rfl, hb2⟩
     have hB2 := Aside0.mk (below_then hB.out hB.out.size hb2)
     go_wp2
     go_ret
     exact ⟨rfl, hB2.out⟩
   | true =>
     obtain ⟨ho, hm, hl⟩ := r0_inv _ hrg hy
     have hmp : 1 ≤ m := by rw [hm]; exact utf8E_pos y
     have hml : m ≤ x.size := by
      have := congrArg List.length hl
      rw [List.length_append, List.length_drop, ← hm, hlen] at this
      omega
     have hsl : ∀ w : World, (Instr.slice 9 (.string x) (some (.int .i64 (m : Int))) none none).run Tryz.prog w = .ok (.string (x.extract m x.size)) w := fun w => by
      rw [run_slice_string_from_if w 9 x .i64 m Tryz.underlying9, if_pos (by omega), Int.toNat_natCast]
     have hxs : Aside0 ((x.extract m x.size).size = x.size - m) := .mk (by simp)
     have hxb : Aside0 (bytesOf (x.extract m x.size) = (bytesOf x).drop m) := .mk (bytes_tail x m)
     have hr3 := hr2.out
     simp only [Bool.true_and] at hr3
     simp only [if_true] at hr3
     replace hr3 := Aside0.mk hr3
     clear hr2 hl hy hr hlen hm
     go_wp2_with fail
     refine hcall.out.mono ?_
     rintro e w2 ⟨rfl, hb2⟩
     have hB2 := Aside0.mk (below_then hB.out hB.out.size hb2)
     clear hb2 hcall
     go_wp2_with fail
     refine (true_call y w2).mono ?_
     rintro e w3 ⟨rfl, rfl⟩
     go_wp2_with fail
     go_roundg k
     case rel => exact ⟨_, rfl, ⟨by rw [hxs.out]; have := hlt.out; omega⟩, ⟨by rw [hxs.out]; have := hx.out; omega⟩, ⟨by rw [hxb.out]; exact hr3.out⟩, hB2⟩
     case measure => omega
set_option maxHeartbeats 8000000 in
set_option maxRecDepth 100000 in
theorem runesC (s : ByteArray) (w : World) (hs : s.size ≤ 2147483647) :
 Calls Tryz.prog 52 #[.string s, .func (.func 103) #[] #[]] w fun e w' => e = .returned (.bool (runes charB (s.size + 1) (bytesOf s))) ∧ Below w.heap.size w w' := by
 obtain ⟨R, hR⟩ : ∃ R, runes charB (s.size + 1) (bytesOf s) = R := ⟨_, rfl⟩
 rw [hR]
 obtain ⟨n0, hn0⟩ : ∃ n0, s.size = n0 := ⟨_, rfl⟩
 replace hR := Aside0.mk hR; replace hn0 := Aside0.mk hn0
 go_enter Tryz.func52, Tryz.ntmps52
 go_wp2_with fail
 go_loopg [0, 4, 5, 6, 7] (n0 + 1) (fun q v0 v4 v5 v6 v7 w' => ∃ (x : ByteArray), v0 = .string x ∧ Aside0 (x.size < q) ∧ Aside0 (x.size ≤ 2147483647) ∧ Aside0 (runes charB q (bytesOf x) = R) ∧ Aside0 (Below w.heap.size w w'))
 case atStart => exact ⟨s, rfl, ⟨by have := hn0.out; omega⟩, ⟨hs⟩, ⟨by rw [← hn0.out]; exact hR.out⟩, ⟨Below.refl _ _⟩⟩
 case round =>
  clear hR hn0
  obtain ⟨x, rfl, hlt, hx, hr, hB⟩ := hrel
  obtain ⟨k, rfl⟩ : ∃ k, gk = k + 1 := ⟨gk - 1, by have := hlt.out; omega⟩
  have hr2 := hr.out
  unfold runes at hr2
  by_cases h0 : x.size = 0
  ·have hb : bytesOf x = [] := List.eq_nil_of_length_eq_zero (by rw [bytesOf_length, h0])
   obtain rfl : x = ⟨#[]⟩ := by
    cases x with
    | mk d => simp [ByteArray.size] at h0; subst h0; rfl
   rw [if_pos hb] at hr2
   subst hr2
   clear hr
   go_wp2
   go_ret
   exact ⟨rfl, hB.out⟩
  ·have hbn : bytesOf x ≠ [] := fun e => h0 (by rw [← bytesOf_length, e]; rfl)
   have hie : x.toList.isEmpty = false := by
    rw [List.isEmpty_eq_false_iff]
    intro e
    have h1 : x.data.toList.length = 0 := by rw [show x.data.toList = x.toList from by simp [ByteArray.toList_eq]]; simp [e]
    rw [data_length] at h1
    exact h0 h1
   rw [if_neg hbn] at hr2
   have hcall := r0_call x wr hx.out
   have hrg : ∀ y ∈ bytesOf x, 0 ≤ y ∧ y < 256 := fun y hy => by
    unfold bytesOf at hy
    obtain ⟨u, _, rfl⟩ := List.mem_map.1 hy
    have := u.toNat_lt
    omega
   obtain ⟨y, m, b, hy⟩ : ∃ y m b, r0 (bytesOf x) = (y, m, b) := ⟨_, _, _, rfl⟩
   rw [hy] at hcall hr2
   simp only at hcall hr2
   have hlen := bytesOf_length x
   replace hcall := Aside0.mk hcall; replace hr2 := Aside0.mk hr2
   cases b with
   | false =>
     have hr3 := hr2.out
     simp only [Bool.false_and, Bool.false_eq_true, if_false] at hr3
     subst hr3
     clear hr2 hr
     go_wp2_with fail
     refine hcall.out.mono ?_
     rintro e w2 ⟨rfl, hb2⟩
     have hB2 := Aside0.mk (below_then hB.out hB.out.size hb2)
     go_wp2
     go_ret
     exact ⟨rfl, hB2.out⟩
   | true =>
     obtain ⟨ho, hm, hl⟩ := r0_inv _ hrg hy
     have hmp : 1 ≤ m := by rw [hm]; exact utf8E_pos y
     have hml : m ≤ x.size := by
      have := congrArg List.length hl
      rw [List.length_append, List.length_drop, ← hm, hlen] at this
      omega
     have hsl : ∀ w : World, (Instr.slice 9 (.string x) (some (.int .i64 (m : Int))) none none).run Tryz.prog w = .ok (.string (x.extract m x.size)) w := fun w => by
      rw [run_slice_string_from_if w 9 x .i64 m Tryz.underlying9, if_pos (by omega), Int.toNat_natCast]
     have hxs : Aside0 ((x.extract m x.size).size = x.size - m) := .mk (by simp)
     have hxb : Aside0 (bytesOf (x.extract m x.size) = (bytesOf x).drop m) := .mk (bytes_tail x m)
     have hr3 := hr2.out
     simp only [Bool.true_and] at hr3
     have hch := PX.spec_isChar.calls y (charB y)
     cases hc : charB y with
     | false =>
       rw [hc] at hr3 hch
       simp only [Bool.false_eq_true, if_false] at hr3
       subst hr3
       have hch2 := Aside0.mk (fun w => hch w (by rw [charB_f, hc]))
       clear hr2 hr hch hl hy hlen hm
       go_wp2_with fail
       refine hcall.out.mono ?_
       rintro e w2 ⟨rfl, hb2⟩
       have hB2 := Aside0.mk (below_then hB.out hB.out.size hb2)
       clear hb2 hcall
       go_wp2_with fail
       refine (hch2.out w2).mono ?_
       rintro e w3 ⟨rfl, hd⟩
       have hB3 := Aside0.mk (below_then hB2.out hB2.out.size hd.below)
       clear hd
       go_wp2
       go_ret
       exact ⟨rfl, hB3.out⟩
     | true =>
       rw [hc] at hr3 hch
       simp only [if_true] at hr3
       replace hr3 := Aside0.mk hr3
       have hch2 := Aside0.mk (fun w => hch w (by rw [charB_f, hc]))
       clear hr2 hl hy hr hch hlen hm
       go_wp2_with fail
       refine hcall.out.mono ?_
       rintro e w2 ⟨rfl, hb2⟩
       have hB2 := Aside0.mk (below_then hB.out hB.out.size hb2)
       clear hb2 hcall
       go_wp2_with fail
       refine (hch2.out w2).mono ?_
       rintro e w3 ⟨rfl, hd⟩
       have hB3 := Aside0.mk (below_then hB2.out hB2.out.size hd.below)
       clear hd
       go_wp2_with fail
       go_roundg k
       case rel => exact ⟨_, rfl, ⟨by rw [hxs.out]; have := hlt.out; omega⟩, ⟨by rw [hxs.out]; have := hx.out; omega⟩, ⟨by rw [hxb.out]; exact hr3.out⟩, hB3⟩
       case measure => omega
set_option maxRecDepth 100000 in
theorem areC (s : ByteArray) (w : World) (hs : s.size ≤ 2147483647) :
 Calls Tryz.prog 41 #[.string s] w fun e w' => e = .returned (.bool (runes charB (s.size + 1) (bytesOf s))) ∧ Below w.heap.size w w' := by
 go_enter Tryz.func41, Tryz.ntmps41
 go_wp2_with fail
 refine (runesC s w hs).mono ?_
 rintro e w2 ⟨rfl, hb⟩
 replace hb := Aside0.mk hb
 go_wp2
 go_ret
 exact ⟨rfl, hb.out⟩
end H
end Go.Proofs.YtkihaebaccdjdaaGreatDoor
