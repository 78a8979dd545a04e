import Derived.Test.YtclmjmfcggkpaaaGreatDoorQ32
import Derived.Test.YtclmjmfcggkpaaaGreatDoorQ9
set_option linter.unusedVariables false
set_option linter.unusedSimpArgs false
namespace Go.Proofs.YtclmjmfcggkpaaaGreatDoor
open Go.RowKit Go.Proofs.YtclmjmfcggkpaaaGreatDoorW.PrintWords Go.Proofs.YtclmjmfcggkpaaaGreatDoorW.PrintLast Go.Proofs.YtclmjmfcggkpaaaGreatDoorW.PrintMore
open PX
namespace H
/-! ### Words and labels, in plain lists -/
def isLet (c : Int) : Bool := decide (97 ≤ c ∧ c ≤ 122) || decide (65 ≤ c ∧ c ≤ 90)
def isDig (c : Int) : Bool := decide (48 ≤ c ∧ c ≤ 57)
def wordFrom (l : List Int) : Bool := l.all (fun c => isLet c || isDig c)
def wordL : List Int → Bool
 | [] => false
 | c :: r => isLet c && wordFrom r && decide (r.length + 1 ≤ 50)
theorem drop_bt (s : ByteArray) (k : Nat) (h : k < s.size) : (bytesOf s).drop k = bt s k :: (bytesOf s).drop (k + 1) := by
 rw [List.drop_eq_getElem_cons (by rw [bytesOf_length]; exact h)]
 congr 1
 have := rd_bytesOf s (k : Int)
 simp only [rd, Int.toNat_natCast] at this
 rw [← this, List.getD_eq_getElem?_getD, List.getElem?_eq_getElem (by rw [bytesOf_length]; exact h)]
 rfl
theorem size_data (s : ByteArray) : s.data.toList.length = s.size := by rw [Array.length_toList]; rfl
theorem toList_nil (s : ByteArray) : s.toList = [] ↔ s.size = 0 := by
 rw [ByteArray.toList_eq, ← List.length_eq_zero_iff, size_data]
theorem wr1 (k n : Nat) (h : k < n) (hn : n ≤ 140737488355328) : wrap64 ((k : Int) + 1) = ((k + 1 : Nat) : Int) := by unfold wrap64; omega
theorem wstep (c x8 : Int) (R : Option Bool) : (if c ≥ 97 then (if c ≤ 122 then R else (if c ≥ 65 then (if c ≤ 90 then R else (if x8 = 0 then (some false) else (if c < 48 then (some false) else (if c > 57 then (some false) else R)))) else (if x8 = 0 then (some false) else (if c < 48 then (some false) else (if c > 57 then (some false) else R))))) else (if c ≥ 65 then (if c ≤ 90 then R else (if x8 = 0 then (some false) else (if c < 48 then (some false) else (if c > 57 then (some false) else R)))) else (if x8 = 0 then (some false) else (if c < 48 then (some false) else (if c > 57 then (some false) else R))))) =
 if isLet c = true then R else if x8 = 0 then some false else if isDig c = true then R else some false := by
 have e1 : isLet c = true ↔ (97 ≤ c ∧ c ≤ 122) ∨ (65 ≤ c ∧ c ≤ 90) := by simp [isLet]
 have e2 : isDig c = true ↔ 48 ≤ c ∧ c ≤ 57 := by simp [isDig]
 simp only [e1, e2]
 repeat' split
 all_goals first | rfl | (exfalso; omega)
theorem isWord_from (s : ByteArray) (hs : s.size ≤ 140737488355328) : ∀ (n k : Nat), n = s.size - k → 1 ≤ k → k ≤ s.size → ∀ F, n + 1 ≤ F →
 spec_isWord.l0 F s (s.size : Int) (k : Int) = some (wordFrom ((bytesOf s).drop k) && decide (s.size ≤ 50)) := by
 intro n
 induction n with
 | zero =>
   intro k hn h1 hk F hF
   obtain rfl : k = s.size := by omega
   cases F with
   | zero => omega
   | succ F =>
     have hne : s.toList ≠ [] := by rw [Ne, toList_nil]; omega
     rw [spec_isWord.l0]
     rw [if_neg (by omega), if_neg hne]
     rw [List.drop_of_length_le (by rw [bytesOf_length]; exact Nat.le_refl _)]
     simp [wordFrom]
     omega
 | succ n ih =>
   intro k hn h1 hk F hF
   have hlt : k < s.size := by omega
   cases F with
   | zero => omega
   | succ F =>
     have IH := ih (k + 1) (by omega) (by omega) (by omega) F (by omega)
     rw [drop_bt s k hlt, spec_isWord.l0]
     rw [if_pos (by omega), if_pos (by omega), if_pos (by omega), wstep, wr1 k s.size hlt hs, IH, if_neg (by omega : ¬ ((k : Int) = 0))]
     simp only [wordFrom, List.all_cons]
     cases isLet (bt s (k : Int)) <;> cases isDig (bt s (k : Int)) <;> simp
theorem isWord_eq (s : ByteArray) (hs : s.size ≤ 140737488355328) : spec_isWord.f (s.size + 1) s = some (wordL (bytesOf s)) := by
 unfold spec_isWord.f
 by_cases h0 : s.size = 0
 ·have hl : bytesOf s = [] := List.length_eq_zero_iff.1 (by rw [bytesOf_length]; exact h0)
  have he : s.toList = [] := (toList_nil s).2 h0
  rw [hl, spec_isWord.l0]
  rw [if_neg (by omega), if_pos he]
  rfl
 ·have hd := drop_bt s 0 (by omega)
  simp only [List.drop_zero] at hd
  have hl := bytesOf_length s
  have IH := isWord_from s hs (s.size - 1) 1 (by omega) (by omega) (by omega) s.size (by omega)
  rw [hd] at hl ⊢
  simp only [List.length_cons] at hl
  simp only [Int.natCast_one] at IH
  have w1 : wrap64 ((0 : Int) + 1) = 1 := by unfold wrap64; omega
  rw [spec_isWord.l0]
  simp only [wordL]
  have W := wstep (bt s 0) 0 (spec_isWord.l0 s.size s (s.size : Int) 1)
  rw [if_pos (by omega), if_pos (by omega), if_pos (by omega), w1, hl]
  simp only [if_true] at W ⊢
  rw [W, IH]
  simp only [Int.ofNat_zero, Int.natCast_zero, Nat.zero_add]
  cases isLet (bt s 0) <;> simp
/-- The label that a name stands for: its name, greedy or not, and whether it is one. -/
def nameB (n : ByteArray) : ByteArray × Bool × Bool :=
 if bt n ((n.size : Int) - 1) = 43 then (n.extract 0 (n.size - 1), true, wordL (bytesOf (n.extract 0 (n.size - 1))))
 else (n, false, wordL (bytesOf n))
/-- The label that a part of a path is. -/
def labelB (s : ByteArray) : ByteArray × Bool × Bool :=
 if s.size < 3 ∨ bt s 0 ≠ 123 ∨ bt s ((s.size : Int) - 1) ≠ 125 then (⟨#[]⟩, false, false) else nameB (s.extract 1 (s.size - 1))
theorem isWord_call (s : ByteArray) (w : World) (hs : s.size ≤ 140737488355328) : Calls Tryz.prog 61 #[.string s] w fun e w' => e = .returned (.bool (wordL (bytesOf s))) ∧ Drawn0 w w' :=
 spec_isWord.calls _ s _ w (isWord_eq s hs)
set_option maxHeartbeats 400000 in
set_option maxRecDepth 100000 in
theorem label_call (s : ByteArray) (w : World) (hs : s.size ≤ 140737488355328) :
 Calls Tryz.prog 51 #[.string s] w fun e w' => e = .returned (.tuple #[.string (labelB s).1, .bool (labelB s).2.1, .bool (labelB s).2.2]) ∧ Drawn0 w w' := by
 unfold labelB
 by_cases h1 : s.size < 3
 ·rw [if_pos (.inl h1)]
  go_enter Tryz.func51, Tryz.ntmps51
  go_wp2
  go_ret3
  exact ⟨rfl, Drawn0.refl _⟩
 ·have hx0 := bt_at s 0
  have hx1 := bt_at s ((s.size : Int) - 1)
  have e1 : ((s.size : Int) - 1).toNat = s.size - 1 := by omega
  simp only [Int.toNat_zero, e1] at hx0 hx1
  replace hx0 := hx0 (by omega)
  replace hx1 := hx1 (by omega)
  by_cases h2 : bt s 0 = 123
  ·by_cases h3 : bt s ((s.size : Int) - 1) = 125
   ·rw [if_neg (by omega)]
    rw [h2] at hx0
    rw [h3] at hx1
    have hsl := fun w => run_slice_string (P := Tryz.prog) w 9 s .i64 .i64 1 ((s.size : Int) - 1) Tryz.underlying9 (by omega) (by omega) (by omega)
    have hz : (s.extract 1 (s.size - 1)).size = s.size - 2 := by simp; omega
    simp only [e1, Int.toNat_one] at hsl
    generalize s.extract 1 (s.size - 1) = n at *
    have hn1 : 1 ≤ n.size := by omega
    have hn2 : n.size ≤ 140737488355328 := by omega
    clear hz
    unfold nameB
    have hx2 := bt_at n ((n.size : Int) - 1)
    have e3 : ((n.size : Int) - 1).toNat = n.size - 1 := by omega
    simp only [e3] at hx2
    replace hx2 := hx2 (by omega)
    have hsl2 := fun w => run_slice_string_h (P := Tryz.prog) w 9 n Tryz.underlying9 .i64 ((n.size : Int) - 1) (by omega) (by omega)
    simp only [e3] at hsl2
    by_cases h4 : bt n ((n.size : Int) - 1) = 43
    ·rw [if_pos h4]
     rw [h4] at hx2
     have hm : (n.extract 0 (n.size - 1)).size ≤ 140737488355328 := by simp; omega
     generalize n.extract 0 (n.size - 1) = m at *
     clear h2 h3 h4
     go_enter Tryz.func51, Tryz.ntmps51
     go_wp2_with fail
     have hwr : IntKind.i64.wrap ((n.size : Int) - 1) = (n.size : Int) - 1 := IntWalk.i64_in _ (by omega)
     go_quiet ((go_at_call 61; exact Calls.quiet_of ((isWord_call m _ hm).mono (fun _ _ h => ⟨h.1, h.2.out⟩))))
     clear hwr
     go_wp2
     go_ret3
     exact ⟨rfl, (Drawn0.refl _).step _⟩
    ·rw [if_neg h4]
     clear h2 h3
     replace h4 : (bt n ((n.size : Int) - 1) == 43) = false := by simpa using h4
     go_enter Tryz.func51, Tryz.ntmps51
     go_wp2_with fail
     refine (isWord_call n _ hn2).mono ?_
     rintro e w' ⟨rfl, ⟨nd, rfl⟩⟩
     go_wp2
     go_ret3
     exact ⟨rfl, (Drawn0.refl _).step nd⟩
   ·rw [if_pos (.inr (.inr h3))]
    rw [h2] at hx0
    clear h2
    replace h3 : (bt s ((s.size : Int) - 1) != 125) = true := by simpa using h3
    go_enter Tryz.func51, Tryz.ntmps51
    go_wp2
    go_ret3
    exact ⟨rfl, Drawn0.refl _⟩
  ·rw [if_pos (.inr (.inl h2))]
   replace h2 : (bt s 0 != 123) = true := by simpa using h2
   go_enter Tryz.func51, Tryz.ntmps51
   go_wp2
   go_ret3
   exact ⟨rfl, Drawn0.refl _⟩
end H
namespace PX
def spec_label.f (a0 : ByteArray) : Option (ByteArray × Bool × Bool) := if a0.size ≤ 2147483647 then some (H.labelB a0) else none
theorem spec_label.calls (a0 : ByteArray) (r1 : ByteArray) (r2 : Bool) (r3 : Bool) (w : World) (h : spec_label.f a0 = some (r1, r2, r3)) :
 Calls Tryz.prog 51 #[.string a0] w fun e w' => e = .returned (.tuple #[.string r1, .bool r2, .bool r3]) ∧ Drawn0 w w' := by
 unfold spec_label.f at h
 split at h
 ·rename_i hs
  have h2 := Option.some.inj h
  refine (H.label_call a0 w (by omega)).mono ?_
  rintro e w' ⟨rfl, hd⟩
  rw [h2]
  exact ⟨rfl, hd⟩
 ·cases h
end PX
end Go.Proofs.YtclmjmfcggkpaaaGreatDoor
