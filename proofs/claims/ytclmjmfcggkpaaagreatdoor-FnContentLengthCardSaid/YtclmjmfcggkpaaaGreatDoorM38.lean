import Derived.Test.YtclmjmfcggkpaaaGreatDoorM13
import Derived.Test.YtclmjmfcggkpaaaGreatDoorM36
import Derived.Test.YtclmjmfcggkpaaaGreatDoorM37
import Derived.Test.YtclmjmfcggkpaaaGreatDoorM6
import Derived.Test.YtclmjmfcggkpaaaGreatDoorM18
import Derived.Test.YtclmjmfcggkpaaaGreatDoorM17
import Derived.Test.YtclmjmfcggkpaaaGreatDoorM22
set_option linter.unusedVariables false
set_option linter.unusedSimpArgs false
namespace Go.Proofs.YtclmjmfcggkpaaaGreatDoor
open Go.RowKit Go.Proofs.YtclmjmfcggkpaaaGreatDoorW.PrintWords Go.Proofs.YtclmjmfcggkpaaaGreatDoorW.PrintLast Go.Proofs.YtclmjmfcggkpaaaGreatDoorW.PrintMore
open PX
namespace HH
/-! ### spec.SameHeaders: a list is the same as itself -/
theorem wr1' (k n : Nat) (h : k < n) (hn : n ≤ 9223372036854775807) : wrap64 ((k : Int) + 1) = ((k + 1 : Nat) : Int) := by unfold wrap64; omega
theorem same_l1 (l : List S73) (i : Nat) (hi : i < l.length) (vs : List ByteArray) (hv : (rd_T73 l (i : Int)).f1 = vs) (hvl : vs.length ≤ 9223372036854775807) (hll : l.length ≤ 9223372036854775807)
    (F0 : Nat) (h0 : spec_SameHeaders.l0 F0 l l l (l.length : Int) ((i + 1 : Nat) : Int) = some true) : ∀ (n j : Nat), n = vs.length - j → j ≤ vs.length →
    ∃ F, spec_SameHeaders.l1 F l l (i : Int) l (l.length : Int) (i : Int) vs (vs.length : Int) (j : Int) = some true := by
  intro n
  induction n with
  | zero =>
    intro j hn hj
    obtain rfl : j = vs.length := by omega
    refine ⟨F0 + 1, ?_⟩
    rw [spec_SameHeaders.l1, if_neg (by omega), wr1' i l.length hi hll]
    exact h0
  | succ n ih =>
    intro j hn hj
    have hlt : j < vs.length := by omega
    obtain ⟨F, hF⟩ := ih (j + 1) (by omega) (by omega)
    refine ⟨F + 1, ?_⟩
    rw [spec_SameHeaders.l1, if_pos (by omega), if_pos (by omega), if_pos (by omega), if_pos (by omega), if_pos (by omega), hv, if_pos (by omega), if_pos rfl, wr1' j vs.length hlt hvl]
    exact hF
theorem same_l0 (l : List S73) (hll : l.length ≤ 9223372036854775807) (hvl : ∀ h ∈ l, h.f1.length ≤ 9223372036854775807) : ∀ (n i : Nat), n = l.length - i → i ≤ l.length →
    ∃ F, spec_SameHeaders.l0 F l l l (l.length : Int) (i : Int) = some true := by
  intro n
  induction n with
  | zero =>
    intro i hn hi
    obtain rfl : i = l.length := by omega
    refine ⟨1, ?_⟩
    rw [spec_SameHeaders.l0, if_neg (by omega)]
    simp
  | succ n ih =>
    intro i hn hi
    have hlt : i < l.length := by omega
    obtain ⟨F0, h0⟩ := ih (i + 1) (by omega) (by omega)
    have hm : rd_T73 l (i : Int) ∈ l := by
      simp [rd_T73, List.getElem?_eq_getElem hlt]
    obtain ⟨F, hF⟩ := same_l1 l i hlt _ rfl (hvl _ hm) hll F0 h0 _ 0 rfl (by omega)
    refine ⟨F + 1 + 1, ?_⟩
    rw [spec_SameHeaders.l0, if_pos (by omega), if_pos (by omega), if_pos (by omega), if_neg (by omega), if_pos (by omega), if_pos rfl, spec_SameHeaders.j1, if_neg (by simp)]
    exact hF
theorem same_call (A0 : Option Addr) (c0 : Nat) (A1 : Option Addr) (c1 : Nat) (l : List S73) (w : World) (hr0 : Kd.C k73 w A0 l.length l) (hc0 : l.length ≤ c0) (hr1 : Kd.C k73 w A1 l.length l) (hc1 : l.length ≤ c1)
    (hvl : ∀ h ∈ l, h.f1.length ≤ 9223372036854775807) : Calls Tryz.prog 25 #[.slice A0 l.length c0, .slice A1 l.length c1] w fun e w' => e = .returned (.bool true) ∧ Below w.heap.size w w' := by
  obtain ⟨F, hF⟩ := same_l0 l hr0.2.1 hvl l.length 0 (by omega) (by omega)
  exact spec_SameHeaders.calls F A0 c0 l A1 c1 l true w hr0 hc0 hr1 hc1 hF
end HH
end Go.Proofs.YtclmjmfcggkpaaaGreatDoor
namespace Go.Proofs.YtclmjmfcggkpaaaGreatDoor.PX
open Go.RowKit Go.Proofs.YtclmjmfcggkpaaaGreatDoorW.PrintWords Go.Proofs.YtclmjmfcggkpaaaGreatDoorW.PrintLast Go.Proofs.YtclmjmfcggkpaaaGreatDoorW.PrintMore
attribute [local go_sem] max2_int min2_int max_two min_two max_three min_three max_four min_four   -- for this text's walks alone
set_option linter.unusedVariables false
set_option linter.unusedSimpArgs false

/-! ### spec_isUnreserved: function 52 -/
end Go.Proofs.YtclmjmfcggkpaaaGreatDoor.PX
namespace Go.Proofs.YtclmjmfcggkpaaaGreatDoor.PX
open Go.RowKit Go.Proofs.YtclmjmfcggkpaaaGreatDoorW.PrintWords Go.Proofs.YtclmjmfcggkpaaaGreatDoorW.PrintLast Go.Proofs.YtclmjmfcggkpaaaGreatDoorW.PrintMore
attribute [local go_sem] max2_int min2_int max_two min_two max_three min_three max_four min_four   -- for this text's walks alone
set_option linter.unusedVariables false
set_option linter.unusedSimpArgs false

/-! ### spec_bigDigit: function 58 -/
end Go.Proofs.YtclmjmfcggkpaaaGreatDoor.PX
namespace Go.Proofs.YtclmjmfcggkpaaaGreatDoor.PX
open Go.RowKit Go.Proofs.YtclmjmfcggkpaaaGreatDoorW.PrintWords Go.Proofs.YtclmjmfcggkpaaaGreatDoorW.PrintLast Go.Proofs.YtclmjmfcggkpaaaGreatDoorW.PrintMore
attribute [local go_sem] max2_int min2_int max_two min_two max_three min_three max_four min_four   -- for this text's walks alone
set_option linter.unusedVariables false
set_option linter.unusedSimpArgs false

/-! ### spec_Escaped: function 29 -/
end Go.Proofs.YtclmjmfcggkpaaaGreatDoor.PX
namespace Go.Proofs.YtclmjmfcggkpaaaGreatDoor.PX
open Go.RowKit Go.Proofs.YtclmjmfcggkpaaaGreatDoorW.PrintWords Go.Proofs.YtclmjmfcggkpaaaGreatDoorW.PrintLast Go.Proofs.YtclmjmfcggkpaaaGreatDoorW.PrintMore
attribute [local go_sem] max2_int min2_int max_two min_two max_three min_three max_four min_four   -- for this text's walks alone
set_option linter.unusedVariables false
set_option linter.unusedSimpArgs false

/-! ### spec_isLiteral: function 65 -/
end Go.Proofs.YtclmjmfcggkpaaaGreatDoor.PX
set_option linter.unusedVariables false
set_option linter.unusedSimpArgs false
namespace Go.Proofs.YtclmjmfcggkpaaaGreatDoor
open Go.RowKit Go.Proofs.YtclmjmfcggkpaaaGreatDoorW.PrintWords Go.Proofs.YtclmjmfcggkpaaaGreatDoorW.PrintLast Go.Proofs.YtclmjmfcggkpaaaGreatDoorW.PrintMore
open PX
namespace H
/-! ### A path of literals and labels; where a label stands -/
inductive Part where
  | lit (b : List Int)
  | lab (n : List Int) (gr : Bool)
def tail (gr : Bool) : List Int := if gr then [43, 125] else [125]
/-- What a part reads as, with values given to some names. -/
def rp (esc : Bool) (σ : List Int → Option (List Int)) : Part → List Int
  | .lit b => 47 :: b
  | .lab n gr => 47 :: (match σ n with
    | some v => if esc then escB gr v else v
    | none => 123 :: (n ++ tail gr))
def path (esc : Bool) (σ : List Int → Option (List Int)) (Q : List Part) : List Int := Q.flatMap (rp esc σ)
def noBr (l : List Int) : Prop := ∀ c ∈ l, c ≠ 123 ∧ c ≠ 125
/-- The literals, and the values given, have no braces; the names are words. -/
structure Fine (σ : List Int → Option (List Int)) (Q : List Part) : Prop where
  lit : ∀ b, Part.lit b ∈ Q → noBr b
  val : ∀ n gr v, Part.lab n gr ∈ Q → σ n = some v → noBr v ∧ ∀ c ∈ v, 0 ≤ c ∧ c ≤ 255
  name : ∀ n gr, Part.lab n gr ∈ Q → wordL n = true
theorem Fine.tail {σ : List Int → Option (List Int)} {q : Part} {Q : List Part} (h : Fine σ (q :: Q)) : Fine σ Q :=
  ⟨fun b hb => h.lit b (List.mem_cons_of_mem _ hb), fun n gr v hn => h.val n gr v (List.mem_cons_of_mem _ hn), fun n gr hn => h.name n gr (List.mem_cons_of_mem _ hn)⟩
end H
end Go.Proofs.YtclmjmfcggkpaaaGreatDoor
set_option linter.unusedVariables false
set_option linter.unusedSimpArgs false
namespace Go.Proofs.YtclmjmfcggkpaaaGreatDoor
open Go.RowKit Go.Proofs.YtclmjmfcggkpaaaGreatDoorW.PrintWords Go.Proofs.YtclmjmfcggkpaaaGreatDoorW.PrintLast Go.Proofs.YtclmjmfcggkpaaaGreatDoorW.PrintMore
open PX
namespace H
theorem bytes_ext (s : ByteArray) (a b : Nat) : bytesOf (s.extract a b) = ((bytesOf s).drop a).take (b - a) := by
  have e : (s.extract a b).data.toList = (s.data.toList.drop a).take (b - a) := by simp [List.extract_eq_take_drop]
  unfold bytesOf
  rw [e, List.map_take, List.map_drop]
end H
end Go.Proofs.YtclmjmfcggkpaaaGreatDoor
