import Derived.Test.YtclmjmfcggkpaaaGreatDoorQ11
import Derived.Test.YtclmjmfcggkpaaaGreatDoorQ33
import Derived.Test.YtclmjmfcggkpaaaGreatDoorQ34
import Derived.Test.YtclmjmfcggkpaaaGreatDoorQ5
import Derived.Test.YtclmjmfcggkpaaaGreatDoorQ15
import Derived.Test.YtclmjmfcggkpaaaGreatDoorQ14
import Derived.Test.YtclmjmfcggkpaaaGreatDoorQ19
import Derived.Test.YtclmjmfcggkpaaaGreatDoorQ32
import Derived.Test.YtclmjmfcggkpaaaGreatDoorQ16
set_option linter.unusedVariables false
set_option linter.unusedSimpArgs false
namespace Go.Proofs.YtclmjmfcggkpaaaGreatDoor
open Go.RowKit Go.Proofs.YtclmjmfcggkpaaaGreatDoorW.PrintWords Go.Proofs.YtclmjmfcggkpaaaGreatDoorW.PrintLast Go.Proofs.YtclmjmfcggkpaaaGreatDoorW.PrintMore
open PX
namespace HH
/-! ### spec.SameHeaders: a list is the same as itself -/
theorem wr1' (k n : Nat) (h : k < n) (hn : n ≤ 9223372036854775807) : wrap64 ((k : Int) + 1) = ((k + 1 : Nat) : Int) := by unfold wrap64; omega
theorem same_l1 (l : List S73) (i : Nat) (hi : i < l.length) (vs : List ByteArray) (hv : (rd_T73 l (i : Int)).f1 = vs) (hvl : vs.length ≤ 9223372036854775807) (hll : l.length ≤ 9223372036854775807)
 (F0 : Nat) (h0 : spec_SameHeaders.l0 F0 l l l (l.length : Int) ((i + 1 : Nat) : Int) = some true) : ∀ (n j : Nat), n = vs.length - j → j ≤ vs.length →
 ∃ F, spec_SameHeaders.l1 F l l (i : Int) l (l.length : Int) (i : Int) vs (vs.length : Int) (j : Int) = some true := by
 intro n
 induction n with
 | zero =>
   intro j hn hj
   obtain rfl : j = vs.length := by omega
   refine ⟨F0 + 1, ?_⟩
   rw [spec_SameHeaders.l1, if_neg (by omega), wr1' i l.length hi hll]
   exact h0
 | succ n ih =>
   intro j hn hj
   have hlt : j < vs.length := by omega
   obtain ⟨F, hF⟩ := ih (j + 1) (by omega) (by omega)
   refine ⟨F + 1, ?_⟩
   rw [spec_SameHeaders.l1, if_pos (by omega), if_pos (by omega), if_pos (by omega), if_pos (by omega), if_pos (by omega), hv, if_pos (by omega), if_pos rfl, wr1' j vs.length hlt hvl]
   exact hF
theorem same_l0 (l : List S73) (hll : l.length ≤ 9223372036854775807) (hvl : ∀ h ∈ l, h.f1.length ≤ 9223372036854775807) : ∀ (n i : Nat), n = l.length - i → i ≤ l.length →
 ∃ F, spec_SameHeaders.l0 F l l l (l.length : Int) (i : Int) = some true := by
 intro n
 induction n with
 | zero =>
   intro i hn hi
   obtain rfl : i = l.length := by omega
   refine ⟨1, ?_⟩
   rw [spec_SameHeaders.l0, if_neg (by omega)]
   simp
 | succ n ih =>
   intro i hn hi
   have hlt : i < l.length := by omega
   obtain ⟨F0, h0⟩ := ih (i + 1) (by omega) (by omega)
   have hm : rd_T73 l (i : Int) ∈ l := by
    simp [rd_T73, List.getElem?_eq_getElem hlt]
   obtain ⟨F, hF⟩ := same_l1 l i hlt _ rfl (hvl _ hm) hll F0 h0 _ 0 rfl (by omega)
   refine ⟨F + 1 + 1, ?_⟩
   rw [spec_SameHeaders.l0, if_pos (by omega), if_pos (by omega), if_pos (by omega), if_neg (by omega), if_pos (by omega), if_pos rfl, spec_SameHeaders.j1, if_neg (by simp)]
   exact hF
theorem same_call (A0 : Option Addr) (c0 : Nat) (A1 : Option Addr) (c1 : Nat) (l : List S73) (w : World) (hr0 : Kd.C k73 w A0 l.length l) (hc0 : l.length ≤ c0) (hr1 : Kd.C k73 w A1 l.length l) (hc1 : l.length ≤ c1)
 (hvl : ∀ h ∈ l, h.f1.length ≤ 9223372036854775807) : Calls Tryz.prog 25 #[.slice A0 l.length c0, .slice A1 l.length c1] w fun e w' => e = .returned (.bool true) ∧ Below w.heap.size w w' := by
 obtain ⟨F, hF⟩ := same_l0 l hr0.2.1 hvl l.length 0 (by omega) (by omega)
 exact spec_SameHeaders.calls F A0 c0 l A1 c1 l true w hr0 hc0 hr1 hc1 hF
end HH
end Go.Proofs.YtclmjmfcggkpaaaGreatDoor
namespace Go.Proofs.YtclmjmfcggkpaaaGreatDoor.PX
open Go.RowKit Go.Proofs.YtclmjmfcggkpaaaGreatDoorW.PrintWords Go.Proofs.YtclmjmfcggkpaaaGreatDoorW.PrintLast Go.Proofs.YtclmjmfcggkpaaaGreatDoorW.PrintMore
attribute [local go_sem] max2_int min2_int max_two min_two max_three min_three max_four min_four   -- for this text's walks alone
set_option linter.unusedVariables false
set_option linter.unusedSimpArgs false

/-! ### spec_isUnreserved: function 52 -/
end Go.Proofs.YtclmjmfcggkpaaaGreatDoor.PX
namespace Go.Proofs.YtclmjmfcggkpaaaGreatDoor.PX
open Go.RowKit Go.Proofs.YtclmjmfcggkpaaaGreatDoorW.PrintWords Go.Proofs.YtclmjmfcggkpaaaGreatDoorW.PrintLast Go.Proofs.YtclmjmfcggkpaaaGreatDoorW.PrintMore
attribute [local go_sem] max2_int min2_int max_two min_two max_three min_three max_four min_four   -- for this text's walks alone
set_option linter.unusedVariables false
set_option linter.unusedSimpArgs false

/-! ### spec_bigDigit: function 58 -/
end Go.Proofs.YtclmjmfcggkpaaaGreatDoor.PX
namespace Go.Proofs.YtclmjmfcggkpaaaGreatDoor.PX
open Go.RowKit Go.Proofs.YtclmjmfcggkpaaaGreatDoorW.PrintWords Go.Proofs.YtclmjmfcggkpaaaGreatDoorW.PrintLast Go.Proofs.YtclmjmfcggkpaaaGreatDoorW.PrintMore
attribute [local go_sem] max2_int min2_int max_two min_two max_three min_three max_four min_four   -- for this text's walks alone
set_option linter.unusedVariables false
set_option linter.unusedSimpArgs false

/-! ### spec_Escaped: function 29 -/
end Go.Proofs.YtclmjmfcggkpaaaGreatDoor.PX
namespace Go.Proofs.YtclmjmfcggkpaaaGreatDoor.PX
open Go.RowKit Go.Proofs.YtclmjmfcggkpaaaGreatDoorW.PrintWords Go.Proofs.YtclmjmfcggkpaaaGreatDoorW.PrintLast Go.Proofs.YtclmjmfcggkpaaaGreatDoorW.PrintMore
attribute [local go_sem] max2_int min2_int max_two min_two max_three min_three max_four min_four   -- for this text's walks alone
set_option linter.unusedVariables false
set_option linter.unusedSimpArgs false

/-! ### spec_isLiteral: function 65 -/
end Go.Proofs.YtclmjmfcggkpaaaGreatDoor.PX
set_option linter.unusedVariables false
set_option linter.unusedSimpArgs false
namespace Go.Proofs.YtclmjmfcggkpaaaGreatDoor
open Go.RowKit Go.Proofs.YtclmjmfcggkpaaaGreatDoorW.PrintWords Go.Proofs.YtclmjmfcggkpaaaGreatDoorW.PrintLast Go.Proofs.YtclmjmfcggkpaaaGreatDoorW.PrintMore
open PX
namespace H
/-! ### A path of literals and labels; where a label stands -/
inductive Part where
 | lit (b : List Int)
 | lab (n : List Int) (gr : Bool)
def tail (gr : Bool) : List Int := if gr then [43, 125] else [125]
/-- What a part reads as, with values given to some names. -/
def rp (esc : Bool) (σ : List Int → Option (List Int)) : Part → List Int
 | .lit b => 47 :: b
 | .lab n gr => 47 :: (match σ n with
   | some v => if esc then escB gr v else v
   | none => 123 :: (n ++ tail gr))
def path (esc : Bool) (σ : List Int → Option (List Int)) (Q : List Part) : List Int := Q.flatMap (rp esc σ)
def noBr (l : List Int) : Prop := ∀ c ∈ l, c ≠ 123 ∧ c ≠ 125
/-- The literals, and the values given, have no braces; the names are words. -/
structure Fine (σ : List Int → Option (List Int)) (Q : List Part) : Prop where
 lit : ∀ b, Part.lit b ∈ Q → noBr b
 val : ∀ n gr v, Part.lab n gr ∈ Q → σ n = some v → noBr v ∧ ∀ c ∈ v, 0 ≤ c ∧ c ≤ 255
 name : ∀ n gr, Part.lab n gr ∈ Q → wordL n = true
theorem Fine.tail {σ : List Int → Option (List Int)} {q : Part} {Q : List Part} (h : Fine σ (q :: Q)) : Fine σ Q :=
 ⟨fun b hb => h.lit b (List.mem_cons_of_mem _ hb), fun n gr v hn => h.val n gr v (List.mem_cons_of_mem _ hn), fun n gr hn => h.name n gr (List.mem_cons_of_mem _ hn)⟩
def names (Q : List Part) : List (List Int) := Q.filterMap (fun q => match q with | .lab n _ => some n | .lit _ => none)
end H
end Go.Proofs.YtclmjmfcggkpaaaGreatDoor
set_option linter.unusedVariables false
set_option linter.unusedSimpArgs false
namespace Go.Proofs.YtclmjmfcggkpaaaGreatDoor
open Go.RowKit Go.Proofs.YtclmjmfcggkpaaaGreatDoorW.PrintWords Go.Proofs.YtclmjmfcggkpaaaGreatDoorW.PrintLast Go.Proofs.YtclmjmfcggkpaaaGreatDoorW.PrintMore
open PX
namespace H
theorem bytes_ext (s : ByteArray) (a b : Nat) : bytesOf (s.extract a b) = ((bytesOf s).drop a).take (b - a) := by
 have e : (s.extract a b).data.toList = (s.data.toList.drop a).take (b - a) := by simp [List.extract_eq_take_drop]
 unfold bytesOf
 rw [e, List.map_take, List.map_drop]
theorem bytes_inj {s t : ByteArray} (h : bytesOf s = bytesOf t) : s = t := by
 rw [← strOf_bytesOf s, ← strOf_bytesOf t, h]
end H
end Go.Proofs.YtclmjmfcggkpaaaGreatDoor
set_option linter.unusedVariables false
set_option linter.unusedSimpArgs false
namespace Go.Proofs.YtclmjmfcggkpaaaGreatDoor
open Go.RowKit Go.Proofs.YtclmjmfcggkpaaaGreatDoorW.PrintWords Go.Proofs.YtclmjmfcggkpaaaGreatDoorW.PrintLast Go.Proofs.YtclmjmfcggkpaaaGreatDoorW.PrintMore
open PX
namespace H
/-! ### A text cut at a byte -/
/-- The parts of a text between such bytes. -/
def splitL (c : Int) : List Int → List (List Int)
 | [] => [[]]
 | x :: xs => if x = c then [] :: splitL c xs else match splitL c xs with
   | p :: ps => (x :: p) :: ps
   | [] => [[x]]
theorem splitL_ne (c : Int) (l : List Int) : splitL c l ≠ [] := by
 cases l with
 | nil => simp [splitL]
 | cons x xs => simp only [splitL]; split; simp; split <;> simp
theorem splitL_no {c : Int} {l : List Int} (h : ∀ x ∈ l, x ≠ c) : splitL c l = [l] := by
 induction l with
 | nil => rfl
 | cons x xs ih =>
   simp only [splitL]
   rw [if_neg (h x (by simp)), ih (fun y hy => h y (by simp [hy]))]
theorem splitL_at {c : Int} {a b : List Int} (h : ∀ x ∈ a, x ≠ c) : splitL c (a ++ c :: b) = a :: splitL c b := by
 induction a with
 | nil => simp [splitL]
 | cons x xs ih =>
   simp only [List.cons_append, splitL]
   rw [if_neg (h x (by simp)), ih (fun y hy => h y (by simp [hy]))]
theorem splitL_len (c : Int) (l : List Int) : (splitL c l).length ≤ l.length + 1 := by
 induction l with
 | nil => simp [splitL]
 | cons x xs ih =>
   simp only [splitL, List.length_cons]
   split
   ·simp; omega
   ·split
    ·rename_i p ps e
     rw [e] at ih
     simp at ih ⊢
     omega
    ·simp
/-- Joined again, a byte ahead of each part. -/
theorem splitL_join (c : Int) (l : List Int) : (splitL c l).flatMap (c :: ·) = c :: l := by
 induction l with
 | nil => simp [splitL]
 | cons x xs ih =>
   simp only [splitL]
   split
   ·rename_i e
    subst e
    simp [ih]
   ·split
    ·rename_i p ps e
     rw [e] at ih
     simp at ih ⊢
     exact ih
    ·rename_i e
     exact absurd e (splitL_ne c xs)
theorem splitL_mem {c : Int} {l p : List Int} (h : p ∈ splitL c l) : (∀ x ∈ p, x ≠ c ∧ x ∈ l) := by
 induction l generalizing p with
 | nil =>
   simp [splitL] at h
   subst h
   simp
 | cons y ys ih =>
   simp only [splitL] at h
   split at h
   ·rcases List.mem_cons.1 h with rfl | h
    ·simp
    ·intro x hx
     obtain ⟨h1, h2⟩ := ih h x hx
     exact ⟨h1, by simp [h2]⟩
   ·rename_i hy
    split at h
    ·rename_i q qs e
     rcases List.mem_cons.1 h with rfl | h
     ·intro x hx
      rcases List.mem_cons.1 hx with rfl | hx
      ·exact ⟨hy, by simp⟩
      ·obtain ⟨h1, h2⟩ := ih (by rw [e]; simp) x hx
       exact ⟨h1, by simp [h2]⟩
     ·intro x hx
      obtain ⟨h1, h2⟩ := ih (by rw [e]; simp [h]) x hx
      exact ⟨h1, by simp [h2]⟩
    ·rename_i e
     exact absurd e (splitL_ne c ys)
def partsB (c : Int) (s : ByteArray) : List ByteArray := (splitL c (bytesOf s)).map strOfNums
theorem fst_at (s : ByteArray) (c : Int) : ∃ i, i ≤ s.size ∧ (∀ j : Nat, j < i → bt s j ≠ c) ∧ (i < s.size → bt s i = c) := by
 have : ∀ (n k : Nat), k + n = s.size → (∀ j : Nat, j < k → bt s j ≠ c) → ∃ i, i ≤ s.size ∧ (∀ j : Nat, j < i → bt s j ≠ c) ∧ (i < s.size → bt s i = c) := by
  intro n
  induction n with
  | zero => intro k hk hn; exact ⟨k, by omega, hn, fun h => by omega⟩
  | succ n ih =>
    intro k hk hn
    by_cases h : bt s k = c
    ·exact ⟨k, by omega, hn, fun _ => h⟩
    ·refine ih (k + 1) (by omega) (fun j hj => ?_)
     rcases Nat.lt_or_ge j k with h1 | h1
     ·exact hn j h1
     ·obtain rfl : j = k := by omega
      exact h
 exact this s.size 0 (by omega) (fun j hj => by omega)
theorem bytes_at (s : ByteArray) (k : Nat) (h : k < s.size) : (bytesOf s)[k]'(by rw [bytesOf_length]; exact h) = bt s k := by
 have := drop_bt s k h
 rw [List.drop_eq_getElem_cons (by rw [bytesOf_length]; exact h)] at this
 exact (List.cons.inj this).1
/-! ### Literals -/
end H
end Go.Proofs.YtclmjmfcggkpaaaGreatDoor
set_option linter.unusedVariables false
set_option linter.unusedSimpArgs false
namespace Go.Proofs.YtclmjmfcggkpaaaGreatDoor
open Go.RowKit Go.Proofs.YtclmjmfcggkpaaaGreatDoorW.PrintWords Go.Proofs.YtclmjmfcggkpaaaGreatDoorW.PrintLast Go.Proofs.YtclmjmfcggkpaaaGreatDoorW.PrintMore
open PX
namespace H
theorem parts_len (c : Int) (s : ByteArray) : (partsB c s).length ≤ s.size + 1 := by
 have := splitL_len c (bytesOf s)
 rw [bytesOf_length] at this
 simpa [partsB] using this
theorem parts_size {c : Int} {s p : ByteArray} (h : p ∈ partsB c s) : p.size ≤ s.size := by
 obtain ⟨q, hq, rfl⟩ := List.mem_map.1 h
 have hj := splitL_join c (bytesOf s)
 have : ∀ (L : List (List Int)), q ∈ L → q.length + 1 ≤ (L.flatMap (c :: ·)).length := by
  intro L
  induction L with
  | nil => intro h; cases h
  | cons x L ih =>
    intro h
    simp only [List.flatMap_cons, List.length_append, List.length_cons]
    rcases List.mem_cons.1 h with rfl | h
    ·omega
    ·have := ih h; omega
 have h2 := this _ hq
 rw [hj] at h2
 simp only [List.length_cons, bytesOf_length] at h2
 rw [strOfNums_size]
 omega
end H
end Go.Proofs.YtclmjmfcggkpaaaGreatDoor
set_option linter.unusedVariables false
set_option linter.unusedSimpArgs false
namespace Go.Proofs.YtclmjmfcggkpaaaGreatDoor
open Go.RowKit Go.Proofs.YtclmjmfcggkpaaaGreatDoorW.PrintWords Go.Proofs.YtclmjmfcggkpaaaGreatDoorW.PrintLast Go.Proofs.YtclmjmfcggkpaaaGreatDoorW.PrintMore
namespace H
end H
end Go.Proofs.YtclmjmfcggkpaaaGreatDoor
set_option linter.unusedVariables false
set_option linter.unusedSimpArgs false
namespace Go.Proofs.YtclmjmfcggkpaaaGreatDoor
open Go.RowKit Go.Proofs.YtclmjmfcggkpaaaGreatDoorW.PrintWords Go.Proofs.YtclmjmfcggkpaaaGreatDoorW.PrintLast Go.Proofs.YtclmjmfcggkpaaaGreatDoorW.PrintMore
open PX
namespace HH
open H
def sm1 (c : Int) : Int := if 65 ≤ c ∧ c ≤ 90 then c + 32 else c
def smallL (l : List Int) : List Int := l.map sm1
theorem freeC {w : World} {g : Nat} {zs : List Int} (h : BAt w g zs) (i : Nat) (hi : i < zs.length) : w.frozen? ⟨g, i, none⟩ = false := by
 obtain ⟨fr, h1, h2⟩ := h
 rcases h2 with rfl | rfl
 ·exact free_of h1 i
 ·simp [World.frozen?, h1]
  omega
theorem setC {w : World} {g : Nat} {zs : List Int} (h : BAt w g zs) (i : Nat) (v : Int) : BAt (w.setCell ⟨g, i, none⟩ (.int .u8 v)) g (zs.set i v) := by
 obtain ⟨fr, h1, h2⟩ := h
 refine ⟨fr, ?_, ?_⟩
 ·rw [heap_set h1]
  congr 2
  apply Array.toList_inj.1
  simp [nums, List.map_set]
 ·rw [List.length_set]; exact h2
theorem u8in (c : Int) (h0 : 0 ≤ c) (h1 : c ≤ 255) : IntKind.u8.wrap c = c := by
 simp [IntKind.wrap, IntKind.bits, IntKind.signed]
 omega
theorem take_at {zs l : List Int} {n k : Nat} (h : zs.take n = smallL (l.take k) ++ l.drop k) (hk : k < l.length) (hn : l.length = n) (hz : n ≤ zs.length) : zs.getD k 0 = l.getD k 0 := by
 have h1 : zs.getD k 0 = (zs.take n).getD k 0 := by
  rw [List.getD_eq_getElem?_getD, List.getD_eq_getElem?_getD, List.getElem?_take, if_pos (by omega)]
 rw [h1, h, List.getD_eq_getElem?_getD, List.getElem?_append_right (by simp [smallL]; omega)]
 simp [smallL]
 rw [show k + (k - min k l.length) = k from by omega]
theorem take_next {zs l : List Int} {n k : Nat} (h : zs.take n = smallL (l.take k) ++ l.drop k) (hk : k < l.length) (hn : l.length = n) (hz : n ≤ zs.length) :
 (zs.set k (sm1 (l.getD k 0))).take n = smallL (l.take (k + 1)) ++ l.drop (k + 1) := by
 rw [List.take_set, h, List.set_append_right _ _ (by simp [smallL]; omega), List.drop_eq_getElem_cons hk]
 have e : k - (smallL (l.take k)).length = 0 := by simp [smallL]; omega
 have e2 : l.getD k 0 = l[k] := by simp [List.getD_eq_getElem?_getD, hk]
 rw [e, List.set_cons_zero, List.take_succ_eq_append_getElem hk, e2]
 unfold smallL
 rw [List.map_append, List.append_assoc]
 rfl
theorem take_same {zs l : List Int} {n k : Nat} (h : zs.take n = smallL (l.take k) ++ l.drop k) (hk : k < l.length) (hs : sm1 (l.getD k 0) = l.getD k 0) :
 zs.take n = smallL (l.take (k + 1)) ++ l.drop (k + 1) := by
 rw [h, List.drop_eq_getElem_cons hk, List.take_succ_eq_append_getElem hk]
 have e : l.getD k 0 = l[k] := by simp [List.getD_eq_getElem?_getD, hk]
 rw [e] at hs
 unfold smallL
 rw [List.map_append, List.append_assoc]
 simp only [List.map_cons, List.map_nil, hs]
 rfl
set_option maxHeartbeats 1000000 in
set_option maxRecDepth 100000 in
theorem small_call (s : ByteArray) (w : World) (hs : s.size ≤ 2147483647) :
 Calls Tryz.prog 62 #[.string s] w fun e w' => e = .returned (.string (strOfNums (smallL (bytesOf s)))) ∧ Below w.heap.size w w' := by
 have hcv := fun (w : World) (s : ByteArray) => Lib.run_convert_string_bytes (P := Tryz.prog) w 9 104 5 s (u := .string) Tryz.underlying9 Tryz.underlying104 Tryz.underlying5
 go_enter Tryz.func62, Tryz.ntmps62
 go_wp2_with fail
 have hb1 := bytesWorld_below w s
 have ha1 := BAt.of_string w s
 rw [← strZs_length w s]
 have ht1 := strZs_take w s
 have hc1 : (strZs w s).length ≤ 9223372036854775807 := by rw [strZs_length]; have := grownCap_le_maxLen w s.size 0 5 (by unfold maxLen; omega); unfold maxLen at this; omega
 generalize strZs w s = z1 at *
 generalize Lib.bytesWorld w 5 s = w1 at *
 have hlz : s.size ≤ z1.length := by
  have := congrArg List.length ht1
  simp [bytesOf_length] at this; omega
 have hI : Aside0 (BAt w1 w.heap.size z1) := ⟨ha1⟩
 have hB : Aside0 (Below w.heap.size w w1) := ⟨hb1⟩
 have hZ : Aside0 (s.size ≤ z1.length) := ⟨hlz⟩
 have hT : Aside0 (z1.take s.size = smallL ((bytesOf s).take 0) ++ (bytesOf s).drop 0) := ⟨by simpa [smallL] using ht1⟩
 clear ha1 hb1 ht1
 go_loopg [10] s.size (fun g v10 w' => ∃ (k : Nat) (zs : List Int), k ≤ s.size ∧ v10 = .int .i64 k ∧ Aside0 (g = s.size - k) ∧ Aside0 (BAt w' w.heap.size zs) ∧ Aside0 (zs.length = z1.length) ∧ Aside0 (zs.take s.size = smallL ((bytesOf s).take k) ++ (bytesOf s).drop k) ∧ Aside0 (Below w.heap.size w w'))
 case atStart => exact ⟨0, z1, Nat.zero_le _, rfl, ⟨by omega⟩, hI, ⟨rfl⟩, hT, hB⟩
 case round =>
  clear hI hT hB
  obtain ⟨k, zs, hk, rfl, hg, hI, hzl, hT, hB⟩ := hrel
  rcases Nat.lt_or_ge k s.size with hlt | hge
  ·have hx := hI.out.cell k (by have := hzl.out; omega)
   rw [take_at hT.out (by rw [bytesOf_length]; exact hlt) (bytesOf_length s) (by have := hzl.out; omega)] at hx
   have hfz := freeC hI.out k (by have := hzl.out; omega)
   have hrg := bytesOf_range s ((bytesOf s).getD k 0) (by rw [List.getD_eq_getElem?_getD, List.getElem?_eq_getElem (by rw [bytesOf_length]; exact hlt)]; exact List.getElem_mem _)
   have hkb : k < (bytesOf s).length := by rw [bytesOf_length]; exact hlt
   have hkz : k ≤ z1.length := by omega
   generalize hc : (bytesOf s).getD k 0 = c at *
   by_cases hu : 65 ≤ c ∧ c ≤ 90
   ·have g1 : decide (65 ≤ c) = true := decide_eq_true hu.1
    have g2 : decide (c ≤ 90) = true := decide_eq_true hu.2
    have w1 : IntKind.u8.wrap (c + 97) = c + 97 := u8in _ (by omega) (by omega)
    have w2 : IntKind.u8.wrap (c + 97 - 65) = c + 97 - 65 := u8in _ (by omega) (by omega)
    have hT2 : Aside0 ((zs.set k (c + 32)).take s.size = smallL ((bytesOf s).take (k + 1)) ++ (bytesOf s).drop (k + 1)) := ⟨by
     have := take_next hT.out hkb (bytesOf_length s) (by have := hzl.out; omega)
     rw [hc, sm1, if_pos hu] at this
     exact this⟩
    replace hc := Aside0.mk hc
    go_wp2
    go_roundg (s.size - (k + 1))
    case measure => have := hg.out; omega
    case rel => exact ⟨k + 1, zs.set k (c + 32), by omega, by go_num, ⟨rfl⟩, ⟨by rw [show c + 32 = c + 97 - 65 from by omega]; exact setC hI.out k _⟩, ⟨by rw [List.length_set]; exact hzl.out⟩, hT2, ⟨hB.out.setCell (Nat.le_refl _) _⟩⟩
   ·have hT2 : Aside0 (zs.take s.size = smallL ((bytesOf s).take (k + 1)) ++ (bytesOf s).drop (k + 1)) := ⟨take_same hT.out hkb (by rw [hc, sm1, if_neg hu])⟩
    replace hc := Aside0.mk hc
    have hnu : Aside0 (¬ (65 ≤ c ∧ c ≤ 90)) := ⟨hu⟩
    clear hu
    have rel : ∀ g' : Nat, Aside0 (g' = s.size - (k + 1)) → ∃ (k' : Nat) (zs' : List Int), k' ≤ s.size ∧ Value.int .i64 ((k : Int) + 1) = .int .i64 k' ∧ Aside0 (g' = s.size - k') ∧ Aside0 (BAt wr w.heap.size zs') ∧ Aside0 (zs'.length = z1.length) ∧ Aside0 (zs'.take s.size = smallL ((bytesOf s).take k') ++ (bytesOf s).drop k') ∧ Aside0 (Below w.heap.size w wr) :=
     fun g' hg' => ⟨k + 1, zs, by omega, by go_num, hg', hI, hzl, hT2, hB⟩
    by_cases h65 : 65 ≤ c
    ·have g1 : decide (65 ≤ c) = true := decide_eq_true h65
     have g2 : decide (c ≤ 90) = false := decide_eq_false (fun h => hnu.out ⟨h65, h⟩)
     go_wp2
     go_roundg (s.size - (k + 1))
     case measure => have := hg.out; omega
     case rel => exact ⟨k + 1, zs, by omega, by go_num, ⟨rfl⟩, hI, hzl, hT2, hB⟩
    ·have g1 : decide (65 ≤ c) = false := decide_eq_false h65
     go_wp2
     go_roundg (s.size - (k + 1))
     case measure => have := hg.out; omega
     case rel => exact ⟨k + 1, zs, by omega, by go_num, ⟨rfl⟩, hI, hzl, hT2, hB⟩
  ·obtain rfl : k = s.size := by omega
   have hcs := hI.out.str (P := Tryz.prog) (n := s.size) (c := z1.length) (by have := hzl.out; have := hZ.out; omega) (src := 104) (dst := 9) Tryz.underlying104 Tryz.underlying5 Tryz.underlying9
   rw [hT.out, List.drop_of_length_le (by rw [bytesOf_length]; exact Nat.le_refl _), List.take_of_length_le (by rw [bytesOf_length]; exact Nat.le_refl _), List.append_nil] at hcs
   go_wp2
   go_ret
   exact ⟨rfl, hB.out⟩
end HH
namespace PX
def spec_small.f (a0 : ByteArray) : Option ByteArray := if a0.size ≤ 2147483647 then some (strOfNums (HH.smallL (bytesOf a0))) else none
theorem spec_small.calls (a0 : ByteArray) (r : ByteArray) (w : World) (h : spec_small.f a0 = some r) :
 Calls Tryz.prog 62 #[.string a0] w fun e w' => e = .returned (.string r) ∧ Below w.heap.size w w' := by
 unfold spec_small.f at h
 split at h
 ·rename_i hs
  obtain rfl := Option.some.inj h
  exact HH.small_call a0 w hs
 ·cases h
end PX
end Go.Proofs.YtclmjmfcggkpaaaGreatDoor
