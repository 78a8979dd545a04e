import Derived.Test.YtkihaebaccdjdaaGreatDoorJ4
import Derived.Deep.RegionHeld3
set_option linter.unusedVariables false
namespace Go.Proofs.YtkihaebaccdjdaaGreatDoor
open Go.RowKit
namespace H
/-- An operation that yields its value in every world of S: taken. -/
theorem tk {P : Program} {md : Region.Mode} {ops : Array Oper} {Q : Exit → Act → World → Prop} {S : World → Prop} (i : Nat) {oi : Oper} {v : Value} {fuel : Nat} {listed : Array Bool} {a a' : Act} {w : World}
    (h : wpAnyH P md ops Q S fuel (listed.setIfInBounds i true) a' w) (hi : ops[i]? = some oi := by rfl)
    (hs : Region.noSelect ops = true := by kernel_rfl) (hf : Region.free md ops listed i = true := by kernel_rfl) (hr : (Region.ready md ops listed).contains i = true := by kernel_rfl)
    (hg : Region.wanted oi (yielded ops a.tmps) = true := by rfl)
    (hy : ∀ w, S w → (execOp a.eval oi).run P w = .ok (.value v) w := by intro w hSw; (try dsimp only at hSw); first | (go_simp; done) | (go_simp; with_reducible rfl))
    (ha : a.put oi.dst v = a' := by (try simp only [Act.put, List.getElem_toArray, List.getElem_cons_zero, List.getElem_cons_succ, List.setIfInBounds_toArray, List.set_cons_zero, List.set_cons_succ]); with_reducible rfl) (hS : S w := by assumption)
    (hQ : ∀ c a w, Q (.panic c) (a.put oi.dst v) w → Q (.panic c) a w := by exact fun _ _ _ h => h) : wpAnyH P md ops Q S (fuel + 1) listed a w := by
  subst ha
  exact wpAnyH_take hi hs hf hr hQ (.inl ⟨hg, hy⟩) hS h
/-- One that is not wanted. -/
theorem tku {P : Program} {md : Region.Mode} {ops : Array Oper} {Q : Exit → Act → World → Prop} {S : World → Prop} (i : Nat) {oi : Oper} {fuel : Nat} {listed : Array Bool} {a a' : Act} {w : World}
    (h : wpAnyH P md ops Q S fuel (listed.setIfInBounds i true) a' w) (hi : ops[i]? = some oi := by rfl)
    (hs : Region.noSelect ops = true := by kernel_rfl) (hf : Region.free md ops listed i = true := by kernel_rfl) (hr : (Region.ready md ops listed).contains i = true := by kernel_rfl)
    (hg : Region.wanted oi (yielded ops a.tmps) = false := by rfl)
    (ha : a.put oi.dst undef = a' := by (try simp only [Act.put, List.getElem_toArray, List.getElem_cons_zero, List.getElem_cons_succ, List.setIfInBounds_toArray, List.set_cons_zero, List.set_cons_succ]); with_reducible rfl) (hS : S w := by assumption)
    (hQ : ∀ c a w, Q (.panic c) (a.put oi.dst undef) w → Q (.panic c) a w := by exact fun _ _ _ h => h) : wpAnyH P md ops Q S (fuel + 1) listed a w := by
  subst ha
  exact wpAnyH_take hi hs hf hr hQ (.inr ⟨hg, rfl⟩) hS h
/-- Only one operation may come up. -/
theorem rd1 {P : Program} {md : Region.Mode} {ops : Array Oper} {Q : Exit → Act → World → Prop} {S : World → Prop} (i : Nat) {o : Oper} {fuel : Nat} {listed : Array Bool} {a : Act} {w : World}
    (h : ∀ K' : Act → World → Prop, Shut (∀ a w, S w → (S w → wpAnyH P md ops Q S fuel (listed.setIfInBounds i true) a w) → K' a w) → if Region.wanted o (yielded ops a.tmps) = true then Oper.wp P o a w K' Q else K' (a.put o.dst undef) w)
    (ho : ops[i]? = some o := by rfl) (hr : Region.ready md ops listed = [i] := by kernel_rfl) : wpAnyH P md ops Q S (fuel + 1) listed a w :=
  wpAnyH_ready hr (by simp) (AllReadyH.cons ho h AllReadyH.nil)
end H
end Go.Proofs.YtkihaebaccdjdaaGreatDoor
