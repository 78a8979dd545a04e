import Derived.Test.YtkihaebaccdjdaaGreatDoorK3
import Derived.Test.YtkihaebaccdjdaaGreatDoorK0
import Derived.Laws.StructEq
/-! ### 46. Values that share: what is only read, with the blocks it lies in (its footprint 'ok'): Foot, F (a row that is read), FK (an element's cells) -/
namespace Go.Proofs.YtkihaebaccdjdaaGreatDoorW.PrintWords
open Go.RowKit
/-- P holds in W and in every world that has W's blocks of ok. -/
def Foot (P : World → Prop) (W : World) (ok : Nat → Prop) : Prop := ∀ W' : World, (∀ k, ok k → k < W.heap.size → W'.heap[k]? = W.heap[k]?) → P W'
theorem heap_lt {W W1 : World} {k : Nat} (h : W1.heap[k]? = W.heap[k]?) (hlt : k < W.heap.size) : k < W1.heap.size := by
  rw [Array.getElem?_eq_getElem hlt] at h
  exact (Array.getElem?_eq_some_iff.1 h).1
namespace Foot
variable {P Q : World → Prop} {W W1 : World} {ok ok' : Nat → Prop}
theorem now (h : Foot P W ok) : P W := h W (fun _ _ _ => rfl)
theorem mono (h : Foot P W ok) (hok : ∀ k, ok k → ok' k) : Foot P W ok' := fun W' hW => h W' (fun k hk hlt => hW k (hok k hk) hlt)
theorem bound (h : Foot P W ok) : Foot P W (fun k => ok k ∧ k < W.heap.size) := fun W' hW => h W' (fun k hk hlt => hW k ⟨hk, hlt⟩ hlt)
theorem step (h : Foot P W ok) (hm : ∀ k, ok k → k < W.heap.size → W1.heap[k]? = W.heap[k]?) : Foot P W1 ok := fun W' hW => h W' (fun k hk hlt => (hW k hk (heap_lt (hm k hk hlt) hlt)).trans (hm k hk hlt))
theorem imp (h : Foot P W ok) (hi : ∀ W', P W' → Q W') : Foot Q W ok := fun W' hW => hi W' (h W' hW)
end Foot
namespace Kd
/-- A row that is only read: what it leads to lies in ok. -/
def F {α : Type} (d : Kd α) (W : World) (ok : Nat → Prop) (A : Option Addr) (n : Nat) (xs : List α) : Prop := Foot (fun W => d.C W A n xs) W ok
/-- An element's cells: what they lead to lies in ok. -/
def FK {α : Type} (d : Kd α) (W : World) (ok : Nat → Prop) (x : α) (c : List Value) : Prop := Foot (fun W => d.K W x c) W ok
section
variable {α β : Type} {d : Kd α} {e base n n' cc g N : Nat} {ok ok' okp S : Nat → Prop} {w w0 w1 W W1 : World} {A A' : Option Addr} {u v v1 : Value} {xs : List α} {xs' : List β} {d' : Kd β} {x : α} {c : List Value}
theorem F_now (h : F d W ok A n xs) : d.C W A n xs := Foot.now h
theorem F_mono (h : F d W ok A n xs) (hok : ∀ k, ok k → ok' k) : F d W ok' A n xs := Foot.mono h hok
theorem F_bound (h : F d W ok A n xs) : F d W (fun k => ok k ∧ k < W.heap.size) A n xs := Foot.bound h
theorem F_step (h : F d W ok A n xs) (hm : ∀ k, ok k → k < W.heap.size → W1.heap[k]? = W.heap[k]?) : F d W1 ok A n xs := Foot.step h hm
theorem F_below (h : F d W ok A n xs) (hb : Below W.heap.size W W1) : F d W1 ok A n xs := F_step h (fun k _ hlt => hb.block k hlt)
theorem F_nil (d : Kd α) (W : World) (ok : Nat → Prop) : F d W ok none ([] : List α).length [] := fun W' _ => C_nil d W'
theorem F_len (h : F d W ok A n xs) : xs.length = n := (F_now h).1
theorem F_max (h : F d W ok A n xs) : n ≤ 9223372036854775807 := (F_now h).2.1
end
end Kd
end Go.Proofs.YtkihaebaccdjdaaGreatDoorW.PrintWords
/-! ### 47. N: a row of the call's own whose elements share (what they lead to is only read) -/
namespace Go.Proofs.YtkihaebaccdjdaaGreatDoorW.PrintWords
open Go.RowKit
namespace Kd
section
variable {α : Type} {d : Kd α} {e base n cc g : Nat} {ok ok' okp S : Nat → Prop} {w w1 W W1 : World} {A : Option Addr} {u v v1 : Value} {xs : List α} {x : α} {c : List Value}
/-- A row of elements (type e) of the call's own; what the elements lead to is only read, and is not this row. -/
def N {α : Type} (d : Kd α) (e : Nat) (w : World) (base : Nat) (ok : Nat → Prop) (v : Value) (xs : List α) : Prop :=
  (∀ k, v.ownBlock = some k → ok k) ∧ ∃ rows : List (List Value), rows.length = xs.length ∧ (raw d.sz).R e w base (fun k => some k = v.ownBlock) v rows ∧ ∀ (j : Nat) (x : α) (c : List Value), xs[j]? = some x → rows[j]? = some c → FK d w (fun k => ok k ∧ some k ≠ v.ownBlock) x c
end
end Kd
end Go.Proofs.YtkihaebaccdjdaaGreatDoorW.PrintWords
/-! ### 52. A row that stays read whatever happens to a block (a set of blocks) doesn't lie there -/
namespace Go.Proofs.YtkihaebaccdjdaaGreatDoorW.PrintWords
open Go.RowKit
namespace Kd
section
variable {α : Type} {d : Kd α} {W : World} {g n : Nat} {S ok : Nat → Prop} {A : Option Addr} {ad : Addr} {xs : List α}
end
end Kd
end Go.Proofs.YtkihaebaccdjdaaGreatDoorW.PrintWords
/-! ### 54. Behind orders that were drawn quietly: the same facts at the world's new name; a flat row's foot -/
namespace Go.Proofs.YtkihaebaccdjdaaGreatDoorW.PrintWords
open Go.RowKit
section
variable {w w' u : World} {m B g : Nat} {o : Obj} {row : Option Nat} {S : Nat → Prop} {a : Addr} {v : Value}
theorem cell_at (hq : w.drewN m = w') (h : w.cell? a = some v) : w'.cell? a = some v := by subst hq; exact h
end
namespace Kd
section
variable {α : Type} {d : Kd α} {e base n m : Nat} {ok : Nat → Prop} {w w' : World} {v : Value} {A : Option Addr} {xs : List α}
end
end Kd
end Go.Proofs.YtkihaebaccdjdaaGreatDoorW.PrintWords
/-! ### 53. '==' of structs as_ one Bool -/
namespace Go.Proofs.YtkihaebaccdjdaaGreatDoorW.PrintWords
open Go.RowKit
section
variable {P : Program} {d : Nat} {xs ys : Array Value} {f : Field} {fs : List Field} {a b : Value} {r s : Bool} {w : World}
end
end Go.Proofs.YtkihaebaccdjdaaGreatDoorW.PrintWords
