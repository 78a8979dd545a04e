import Derived.Test.YtkihaebaccdjdaaGreatDoorX5
import Derived.Lib.AppendStr
namespace Go.Proofs.YtkihaebaccdjdaaGreatDoor
open Go.RowKit Go.Proofs.YtkihaebaccdjdaaGreatDoorW.PrintWords Go.Proofs.YtkihaebaccdjdaaGreatDoorW.PrintLast Go.Proofs.YtkihaebaccdjdaaGreatDoorW.PrintMore
namespace H

/-! ### What a call leaves as it was: all but the blocks of S, and new ones -/
structure Fr (S : Nat → Prop) (w w' : World) : Prop where
 os : w'.os = w.os
 tape : w'.tape = w.tape
 output : w'.output = w.output
 size : w.heap.size ≤ w'.heap.size
 block : ∀ k, k < w.heap.size → ¬ S k → w'.heap[k]? = w.heap[k]?
theorem lt_of {w : World} {b : Nat} {o : Obj} (h : w.heap[b]? = some o) : b < w.heap.size := (Array.getElem?_eq_some_iff.1 h).1
namespace Fr
variable {S S2 : Nat → Prop} {w w1 w2 : World}
theorem refl (S : Nat → Prop) (w : World) : Fr S w w := ⟨rfl, rfl, rfl, Nat.le_refl _, fun _ _ _ => rfl⟩
theorem mono (h : Fr S w w1) (hs : ∀ k, k < w.heap.size → S k → S2 k) : Fr S2 w w1 := ⟨h.os, h.tape, h.output, h.size, fun k hk hn => h.block k hk (fun h' => hn (hs k hk h'))⟩
theorem trans (h : Fr S w w1) (k : Fr S2 w1 w2) (hs : ∀ k, k < w.heap.size → S2 k → S k) : Fr S w w2 :=
 ⟨k.os.trans h.os, k.tape.trans h.tape, k.output.trans h.output, Nat.le_trans h.size k.size, fun i hi hn => (k.block i (Nat.lt_of_lt_of_le hi h.size) (fun h' => hn (hs i hi h'))).trans (h.block i hi hn)⟩
theorem of_below (h : Below w.heap.size w w1) : Fr S w w1 := ⟨h.os, h.tape, h.output, h.size, fun k hk _ => h.block k hk⟩
theorem below {B : Nat} (h : Fr S w w1) (hB : B ≤ w.heap.size) (hs : ∀ k, k < w.heap.size → S k → B ≤ k) : Below B w w1 :=
 ⟨h.os, h.tape, h.output, h.size, fun k hk => h.block k (Nat.lt_of_lt_of_le hk hB) (fun h' => by have := hs k (by omega) h'; omega)⟩
theorem heap (h : Fr S w w1) {b : Nat} {o : Obj} (hb : w.heap[b]? = some o) (hn : ¬ S b) : w1.heap[b]? = some o := (h.block b (lt_of hb) hn).trans hb
theorem own (h : Fr S w w1) {base : Nat} {e : TypeId} {size n : Nat} {v : Value} {xs : List Value} (ho : w.ownsRow base e size v n xs) (hn : ∀ k, v.ownBlock = some k → ¬ S k) : w1.ownsRow base e size v n xs :=
 own_move ho (fun k hk => h.block k (own_lt ho k hk) (hn k hk))
theorem alloc (h : Fr S w w1) (o : Obj) : Fr S w (w1.alloc o) := h.trans (S2 := fun _ => False) (of_below ((Below.refl _ _).alloc (Nat.le_refl _) o)) (fun _ _ h' => h'.elim)
theorem setCell (h : Fr S w w1) {p : Addr} (hp : S p.block ∨ w.heap.size ≤ p.block) (u : Value) : Fr S w (w1.setCell p u) :=
 ⟨h.os, h.tape, h.output, by rw [show (w1.setCell p u).heap.size = w1.heap.size from by simp [World.setCell]]; exact h.size, fun k hk hn => by
  rw [Below.heap_setCell w1 p u k (fun e => by subst e; rcases hp with hp | hp; exact hn hp; omega)]; exact h.block k hk hn⟩
theorem drew (h : Fr S w w1) : Fr S w w1.drew := ⟨h.os, h.tape, h.output, h.size, h.block⟩
theorem drewN (h : Fr S w w1) (n : Nat) : Fr S w (w1.drewN n) := ⟨h.os, h.tape, h.output, h.size, h.block⟩
theorem grown {row : Option Nat} (h : Fr S w w1) (hg : w1.grownBy w2 row) (hr : ∀ k, row = some k → S k ∨ w.heap.size ≤ k) : Fr S w w2 :=
 ⟨hg.os.trans h.os, hg.tape.trans h.tape, hg.output.trans h.output, Nat.le_trans h.size hg.size, fun k hk hn => (hg.block k (Nat.lt_of_lt_of_le hk h.size) (fun e => by rcases hr k e.symm with h' | h'; exact hn h'; omega)).trans (h.block k hk hn)⟩
end Fr

/-! ### Blocks of cells -/
theorem cell_at {w : World} {b : Nat} {cs : Array Value} {T : TypeId} {f : Nat × Nat} (h : w.heap[b]? = some (.cells cs T f)) (i : Nat) : w.cell? ⟨b, i, none⟩ = cs[i]? := by
 simp [World.cell?, h]
theorem cell_of {w : World} {b : Nat} {v : Value} {T : TypeId} (h : w.heap[b]? = some (.cells #[v] T (0, 0))) : w.cell? ⟨b, 0, none⟩ = some v := by
 simp [World.cell?, h]
theorem free_of {w : World} {b : Nat} {cs : Array Value} {T : TypeId} (h : w.heap[b]? = some (.cells cs T (0, 0))) (o : Nat) : w.frozen? ⟨b, o, none⟩ = false := by
 simp [World.frozen?, h]
theorem heap_set {w : World} {b : Nat} {cs : Array Value} {T : TypeId} {f : Nat × Nat} (h : w.heap[b]? = some (.cells cs T f)) (i : Nat) (u : Value) :
 (w.setCell ⟨b, i, none⟩ u).heap[b]? = some (.cells (cs.setIfInBounds i u) T f) := by
 simp only [World.setCell, Array.getElem?_modify, if_true, h]; rfl
theorem heap_new (w : World) (o : Obj) : (w.alloc o).heap[w.heap.size]? = some o := by
 show (w.heap.push o)[w.heap.size]? = _
 rw [Array.getElem?_push, if_pos rfl]
theorem heap_old {w : World} {b : Nat} {o : Obj} (h : w.heap[b]? = some o) (o' : Obj) : (w.alloc o').heap[b]? = some o := by
 rw [Below.heap_alloc w o' b (lt_of h)]; exact h
theorem own_set {w : World} {base : Nat} {e : TypeId} {size n : Nat} {v : Value} {xs : List Value} (h : w.ownsRow base e size v n xs) {p : Addr} (hp : ∀ k, v.ownBlock = some k → k ≠ p.block) (u : Value) : (w.setCell p u).ownsRow base e size v n xs :=
 own_move h (fun k hk => Below.heap_setCell w p u k (hp k hk))
theorem own_low {w : World} {base base' : Nat} {e : TypeId} {size n : Nat} {v : Value} {xs : List Value} (h : w.ownsRow base e size v n xs) (hb : base' ≤ base) : w.ownsRow base' e size v n xs := own_weaken h hb
end H
end Go.Proofs.YtkihaebaccdjdaaGreatDoor
set_option linter.unusedVariables false
set_option linter.unusedSimpArgs false
namespace Go.Proofs.YtkihaebaccdjdaaGreatDoor
open Go.RowKit Go.Proofs.YtkihaebaccdjdaaGreatDoorW.PrintWords Go.Proofs.YtkihaebaccdjdaaGreatDoorW.PrintLast Go.Proofs.YtkihaebaccdjdaaGreatDoorW.PrintMore
namespace H
/-! ### Buffers of bytes: a block of type T whose cell is a row of bytes; neither is a block of X -/
theorem inf5 : (Tryz.prog.info? 5).map (fun i => (i.zero, i.size, i.bytes)) = some (some (.int .u8 0), 1, 1) := by kernel_rfl
theorem heap_below {w w' : World} (hb : Below w.heap.size w w') {k : Nat} {o : Obj} (h : w.heap[k]? = some o) : w'.heap[k]? = some o := (hb.block k (lt_of h)).trans h
structure JB (T : TypeId) (B : Nat) (X : Nat → Prop) (b : Nat) (xs : List Int) (w : World) : Prop where
 out : ∃ v, w.heap[b]? = some (.cells #[v] T (0, 0)) ∧ w.ownsRow B 5 1 v xs.length (nums .u8 xs) ∧ ∀ k, v.ownBlock = some k → ¬ X k
 ge : B ≤ b
 ne : ¬ X b
 low : ∀ k, X k → k < w.heap.size
namespace JB
variable {T : TypeId} {B b : Nat} {X : Nat → Prop} {xs : List Int} {w w' : World}
theorem lt (h : JB T B X b xs w) : b < w.heap.size := by obtain ⟨v, h1, _⟩ := h.out; exact lt_of h1
theorem frX {S : Nat → Prop} (h : JB T B X b xs w) (hf : Fr S w w') (hS : ∀ k, S k → X k) : JB T B X b xs w' := by
 obtain ⟨v, h1, h2, h3⟩ := h.out
 exact ⟨⟨v, hf.heap h1 (fun e => h.ne (hS _ e)), hf.own h2 (fun k hk e => h3 k hk (hS _ e)), h3⟩, h.ge, h.ne, fun k hk => by have := h.low k hk; have := hf.size; omega⟩
theorem calm (h : JB T B X b xs w) (hb : Below w.heap.size w w') : JB T B X b xs w' := h.frX (Fr.of_below (S := fun _ => False) hb) (fun _ h => h.elim)
theorem re {X' : Nat → Prop} (h : JB T B X b xs w) (hX : ∀ k, X' k → X k ∨ w.heap.size ≤ k) (hl : ∀ k, X' k → k < w'.heap.size) (hb : Below w.heap.size w w') : JB T B X' b xs w' := by
 obtain ⟨v, h1, h2, h3⟩ := h.out
 have hlt := lt_of h1
 refine ⟨⟨v, heap_below hb h1, (Fr.of_below (S := fun _ => False) hb).own h2 (fun _ _ h => h), fun k hk e => ?_⟩, h.ge, fun e => ?_, hl⟩
 ·have := own_lt h2 k hk
  rcases hX k e with e | e
  ·exact h3 k hk e
  ·omega
 ·rcases hX b e with e | e
  ·exact h.ne e
  ·omega
/-- One block more that is to stay. -/
theorem also (h : JB T B X b xs w) (hb : Below w.heap.size w w') {g : Nat} (hg : w.heap.size ≤ g) (hg' : g < w'.heap.size) : JB T B (fun k => X k ∨ k = g) b xs w' :=
 h.re (fun k hk => hk.imp id (fun e => by omega)) (fun k hk => by rcases hk with e | e; have := h.low k e; have := hb.size; omega; omega) hb
theorem less {X' : Nat → Prop} (h : JB T B X b xs w) (hX : ∀ k, X' k → X k) : JB T B X' b xs w := by
 obtain ⟨v, h1, h2, h3⟩ := h.out
 exact ⟨⟨v, h1, h2, fun k hk e => h3 k hk (hX k e)⟩, h.ge, fun e => h.ne (hX b e), fun k hk => h.low k (hX k hk)⟩
end JB
/-- What a write leaves. -/
def Wrote (T : TypeId) (B : Nat) (X : Nat → Prop) (b : Nat) (xs : List Int) (w w' : World) : Prop := JB T B X b xs w' ∧ Fr (fun k => B ≤ k ∧ ¬ X k) w w'
theorem Wrote.trans {T : TypeId} {B b : Nat} {X : Nat → Prop} {xs ys : List Int} {w w1 w2 : World} (h : Wrote T B X b xs w w1) (k : Wrote T B X b ys w1 w2) : Wrote T B X b ys w w2 := ⟨k.1, h.2.trans k.2 (fun _ _ h => h)⟩
theorem Wrote.from {T : TypeId} {B b : Nat} {X X' : Nat → Prop} {xs : List Int} {w w1 w' : World} (hb : Below w.heap.size w w1) (hl : ∀ k, X k → k < w.heap.size) (h : Wrote T B X' b xs w1 w') (hX : ∀ k, X k → X' k) : Wrote T B X b xs w w' :=
 ⟨h.1.less hX, (Fr.of_below (S := fun k => B ≤ k ∧ ¬ X k) hb).trans h.2 (fun k _ hs => ⟨hs.1, fun e => hs.2 (hX k e)⟩)⟩
theorem JB.put {T : TypeId} {B b : Nat} {X : Nat → Prop} {ys : List Int} {w w1 : World} {v v1 : Value} {xs : List Int} (hT : T ≠ 5) (hb : w.heap[b]? = some (.cells #[v] T (0, 0))) (ho : w.ownsRow B 5 1 v xs.length (nums .u8 xs)) (hX : ∀ k, v.ownBlock = some k → ¬ X k)
 (ge : B ≤ b) (ne : ¬ X b) (low : ∀ k, X k → k < w.heap.size) (hg : w.grownBy w1 v.ownBlock) (h1 : w1.ownsRow B 5 1 v1 ys.length (nums .u8 ys)) (hat : v1.ownBlock = v.ownBlock ∨ ∃ b, v1.ownBlock = some b ∧ w.heap.size ≤ b) :
 Wrote T B X b ys w (w1.setCell ⟨b, 0, none⟩ v1) := by
 have hnb : ∀ k, v.ownBlock = some k → k ≠ b := fun k hk e => by
  obtain ⟨cells, hc⟩ := own_typed ho k hk
  rw [e, hb] at hc
  injection hc with hc
  injection hc with _ hc _
  exact hT hc
 have hb1 : w1.heap[b]? = some (.cells #[v] T (0, 0)) := (hg.block b (lt_of hb) (fun e => hnb b e.symm rfl)).trans hb
 have hnb1 : ∀ k, v1.ownBlock = some k → k ≠ b := fun k hk e => by
  obtain ⟨cells, hc⟩ := own_typed h1 k hk
  rw [e, hb1] at hc
  injection hc with hc
  injection hc with _ hc _
  exact hT hc
 have hs : (w1.setCell ⟨b, 0, none⟩ v1).heap.size = w1.heap.size := by simp [World.setCell]
 refine ⟨⟨⟨v1, by simpa using heap_set hb1 0 v1, own_set (p := ⟨b, 0, none⟩) h1 hnb1 v1, fun k hk e => ?_⟩, ge, ne, fun k hk => by have := low k hk; have := hg.size; omega⟩, ?_⟩
 ·rcases hat with hat | ⟨g, hg1, hg2⟩
  ·exact hX k (hat ▸ hk) e
  ·rw [hg1] at hk
   injection hk with hk
   have := low k e
   omega
 ·exact ((Fr.refl (fun k => B ≤ k ∧ ¬ X k) w).grown hg (fun k hk => .inl ⟨own_base ho k hk, hX k hk⟩)).setCell (p := ⟨b, 0, none⟩) (.inl ⟨ge, ne⟩) v1
theorem own_ne {T : TypeId} {B b : Nat} {w : World} {v : Value} {n : Nat} {xs : List Value} {cs : Array Value} {z : Nat × Nat} (hT : T ≠ 5) (hb : w.heap[b]? = some (.cells cs T z)) (ho : w.ownsRow B 5 1 v n xs) : ∀ k, v.ownBlock = some k → k ≠ b := fun k hk e => by
 obtain ⟨cells, hc⟩ := own_typed ho k hk
 rw [e, hb] at hc
 injection hc with hc
 injection hc with _ hc _
 exact hT hc
theorem JB.put_at {T : TypeId} {B b : Nat} {X : Nat → Prop} {ys : List Int} {w w1 : World} {v v1 : Value} {xs : List Int} (h : JB T B X b xs w) (hb : w.heap[b]? = some (.cells #[v] T (0, 0))) (ho : w.ownsRow B 5 1 v xs.length (nums .u8 xs)) (hX : ∀ k, v.ownBlock = some k → ¬ X k)
 (hg : w.grownBy w1 v.ownBlock) (h1 : w1.ownsRow B 5 1 v1 ys.length (nums .u8 ys)) (hat : v1.ownBlock = v.ownBlock ∨ ∃ b, v1.ownBlock = some b ∧ w.heap.size ≤ b) (hT : T ≠ 5 := by decide) : Wrote T B X b ys w (w1.setCell ⟨b, 0, none⟩ v1) :=
 JB.put hT hb ho hX h.ge h.ne h.low hg h1 hat
/-- Where append([]byte, string) leaves the row: where it was, or in a new block. -/
theorem str_hat {P : Program} (w : World) (base : Nat) (t u ty e : TypeId) (i : TypeInfo) (ht : P.underlying t = some (.slice e)) (hu : P.underlying u = some .string) (hi : P.info? e = some i) (hz : i.zero = some (.int .u8 0)) (hsize : i.size = 1) (hby : i.bytes = 1)
 (v : Value) (n : Nat) (xs : List Value) (hown : w.ownsRow base e 1 v n xs) (s : ByteArray) (hbytes : n + s.size ≤ 140737488355328) {v' : Value} {w' : World} (hr : (Builtin.append_ #[t, u] ty #[v, .string s]).run P w = .ok v' w') (hn : v = .slice none 0 0 → s.size = 0 → v' = .slice none 0 0) :
 v'.ownBlock = v.ownBlock ∨ ∃ b, v'.ownBlock = some b ∧ w.heap.size ≤ b := by
 have hxl : xs.length = n := by simpa using hown.1
 rcases hown.2 with ⟨rfl, rfl⟩ | ⟨g, cap, cur, rfl, hbg, hg, hnc, hcm, hcs, htake⟩
 ·by_cases hm : s.size = 0
  ·rw [hn rfl hm]; exact .inl rfl
  ·have h2 := run_append_nil_string (P := P) w t u ty e i (.int .u8 0) ht hu hi hz s (by omega) (by omega) (by rw [hby]; omega)
   rw [h2] at hr
   injection hr with hr _
   subst hr
   exact .inr ⟨w.heap.size, rfl, Nat.le_refl _⟩
 ·by_cases hroom : n + s.size ≤ cap
  ·have hcs' : cur.size = cap := by simpa using hcs
   have h2 := Lib.run_append_room_string (P := P) w t u ty e i ht hu hi hsize g n cap cur hg s hroom (by omega)
   rw [h2] at hr
   injection hr with hr _
   subst hr
   exact .inl rfl
  ·have holds : ∀ j u, xs[j]? = some u → w.cell? ((⟨g, 0, none⟩ : Addr).add j) = some u := hown.cells (g := g) rfl
   have h2 := Lib.run_append_grow_string (P := P) w t u ty e i (.int .u8 0) ht hu hi hz ⟨g, 0, none⟩ n cap xs (by rw [hsize]; simpa using hxl) holds s (by omega) (by omega) (by rw [hby]; exact growslice_fits (by omega) (by omega))
   rw [h2] at hr
   injection hr with hr _
   subst hr
   exact .inr ⟨w.heap.size, rfl, Nat.le_refl _⟩
/-- append([]byte, string), with a word on where the row lies. -/
theorem app_str {P : Program} {ops : Array Oper} {rest : List Oper} {o : Oper} {a : Act} {Q : Exit → Act → World → Prop} {W : World} (base : Nat) (hgd : o.guard = none) (s x : Operand) (t u : TypeId)
 (ho : o.op = .call { callee := .builtin .append, args := #[s, x], argTypes := #[t, u] }) (ht : P.underlying t = some (.slice 5)) (hu : P.underlying u = some .string) (hinfo : (P.info? 5).map (fun i => (i.zero, i.size, i.bytes)) = some (some (.int .u8 0), 1, 1))
 (v : Value) (xs : List Int) (y : ByteArray) (hs : a.eval s = v) (hx : a.eval x = .string y) (HO : W.ownsRow base 5 1 v xs.length (nums .u8 xs)) (hbase : base ≤ W.heap.size) (hl : xs.length + y.size ≤ 140737488355328)
 (h : ∀ v1 w1, w1.ownsRow base 5 1 v1 (xs ++ bytesOf y).length (nums .u8 (xs ++ bytesOf y)) → W.grownBy w1 v.ownBlock → (v1.ownBlock = v.ownBlock ∨ ∃ b, v1.ownBlock = some b ∧ W.heap.size ≤ b) → wpList P ops Q rest (a.put o.dst v1) w1) :
 wpList P ops Q (o :: rest) a W := by
 obtain ⟨i0, hi, hzz⟩ := Option.map_eq_some_iff.1 hinfo
 simp only [Prod.mk.injEq] at hzz
 obtain ⟨hz0, hz1, hz2⟩ := hzz
 obtain ⟨v', w', hr, h2, h3, h4⟩ := Lib.run_append_own_string (P := P) W base t u o.type 5 i0 ht hu hi hz0 hz1 hz2 v xs.length (nums .u8 xs) HO y (by simp only [maxLen]; omega) hl hbase
 have hat := str_hat (P := P) W base t u o.type 5 i0 ht hu hi hz0 hz1 hz2 v xs.length (nums .u8 xs) HO y hl hr (fun e1 e2 => h4.2 ⟨e1, e2⟩)
 refine wpList_plain hgd fun K hK => ?_
 unfold Oper.wp execOp
 simp only [ho, resolve, invoke, builtin, Sem.run_bind, Sem.run_pure, Result.andThen_ok, List.map_toArray, List.map_cons, List.map_nil, hs, hx, hr]
 have hl2 : (xs ++ bytesOf y).length = xs.length + y.size := by rw [List.length_append, bytesOf_length]
 have hc : nums .u8 (xs ++ bytesOf y) = nums .u8 xs ++ Lib.strCells y := by
  rw [nums_append]
  congr 1
  simp [nums, bytesOf, Lib.strCells]
 exact hK _ _ (h v' w' (by rw [hl2, hc]; exact h2) h3 hat)
end H
end Go.Proofs.YtkihaebaccdjdaaGreatDoor
