import Derived.Test.YtclmjmfcggkpaaaGreatDoorQ5
namespace Go.Proofs.YtclmjmfcggkpaaaGreatDoor
open Go.RowKit Go.Proofs.YtclmjmfcggkpaaaGreatDoorW.PrintWords Go.Proofs.YtclmjmfcggkpaaaGreatDoorW.PrintLast Go.Proofs.YtclmjmfcggkpaaaGreatDoorW.PrintMore
namespace H

/-! ### What a call leaves as it was: all but the blocks of S, and new ones -/
structure Fr (S : Nat → Prop) (w w' : World) : Prop where
 os : w'.os = w.os
 tape : w'.tape = w.tape
 output : w'.output = w.output
 size : w.heap.size ≤ w'.heap.size
 block : ∀ k, k < w.heap.size → ¬ S k → w'.heap[k]? = w.heap[k]?
theorem lt_of {w : World} {b : Nat} {o : Obj} (h : w.heap[b]? = some o) : b < w.heap.size := (Array.getElem?_eq_some_iff.1 h).1
namespace Fr
variable {S S2 : Nat → Prop} {w w1 w2 : World}
theorem refl (S : Nat → Prop) (w : World) : Fr S w w := ⟨rfl, rfl, rfl, Nat.le_refl _, fun _ _ _ => rfl⟩
theorem mono (h : Fr S w w1) (hs : ∀ k, k < w.heap.size → S k → S2 k) : Fr S2 w w1 := ⟨h.os, h.tape, h.output, h.size, fun k hk hn => h.block k hk (fun h' => hn (hs k hk h'))⟩
theorem trans (h : Fr S w w1) (k : Fr S2 w1 w2) (hs : ∀ k, k < w.heap.size → S2 k → S k) : Fr S w w2 :=
 ⟨k.os.trans h.os, k.tape.trans h.tape, k.output.trans h.output, Nat.le_trans h.size k.size, fun i hi hn => (k.block i (Nat.lt_of_lt_of_le hi h.size) (fun h' => hn (hs i hi h'))).trans (h.block i hi hn)⟩
theorem of_below (h : Below w.heap.size w w1) : Fr S w w1 := ⟨h.os, h.tape, h.output, h.size, fun k hk _ => h.block k hk⟩
theorem below {B : Nat} (h : Fr S w w1) (hB : B ≤ w.heap.size) (hs : ∀ k, k < w.heap.size → S k → B ≤ k) : Below B w w1 :=
 ⟨h.os, h.tape, h.output, h.size, fun k hk => h.block k (Nat.lt_of_lt_of_le hk hB) (fun h' => by have := hs k (by omega) h'; omega)⟩
theorem heap (h : Fr S w w1) {b : Nat} {o : Obj} (hb : w.heap[b]? = some o) (hn : ¬ S b) : w1.heap[b]? = some o := (h.block b (lt_of hb) hn).trans hb
theorem own (h : Fr S w w1) {base : Nat} {e : TypeId} {size n : Nat} {v : Value} {xs : List Value} (ho : w.ownsRow base e size v n xs) (hn : ∀ k, v.ownBlock = some k → ¬ S k) : w1.ownsRow base e size v n xs :=
 own_move ho (fun k hk => h.block k (own_lt ho k hk) (hn k hk))
theorem alloc (h : Fr S w w1) (o : Obj) : Fr S w (w1.alloc o) := h.trans (S2 := fun _ => False) (of_below ((Below.refl _ _).alloc (Nat.le_refl _) o)) (fun _ _ h' => h'.elim)
theorem setCell (h : Fr S w w1) {p : Addr} (hp : S p.block ∨ w.heap.size ≤ p.block) (u : Value) : Fr S w (w1.setCell p u) :=
 ⟨h.os, h.tape, h.output, by rw [show (w1.setCell p u).heap.size = w1.heap.size from by simp [World.setCell]]; exact h.size, fun k hk hn => by
  rw [Below.heap_setCell w1 p u k (fun e => by subst e; rcases hp with hp | hp; exact hn hp; omega)]; exact h.block k hk hn⟩
theorem drew (h : Fr S w w1) : Fr S w w1.drew := ⟨h.os, h.tape, h.output, h.size, h.block⟩
theorem drewN (h : Fr S w w1) (n : Nat) : Fr S w (w1.drewN n) := ⟨h.os, h.tape, h.output, h.size, h.block⟩
theorem grown {row : Option Nat} (h : Fr S w w1) (hg : w1.grownBy w2 row) (hr : ∀ k, row = some k → S k ∨ w.heap.size ≤ k) : Fr S w w2 :=
 ⟨hg.os.trans h.os, hg.tape.trans h.tape, hg.output.trans h.output, Nat.le_trans h.size hg.size, fun k hk hn => (hg.block k (Nat.lt_of_lt_of_le hk h.size) (fun e => by rcases hr k e.symm with h' | h'; exact hn h'; omega)).trans (h.block k hk hn)⟩
end Fr

/-! ### Blocks of cells -/
theorem cell_at {w : World} {b : Nat} {cs : Array Value} {T : TypeId} {f : Nat × Nat} (h : w.heap[b]? = some (.cells cs T f)) (i : Nat) : w.cell? ⟨b, i, none⟩ = cs[i]? := by
 simp [World.cell?, h]
theorem cell_of {w : World} {b : Nat} {v : Value} {T : TypeId} (h : w.heap[b]? = some (.cells #[v] T (0, 0))) : w.cell? ⟨b, 0, none⟩ = some v := by
 simp [World.cell?, h]
theorem free_of {w : World} {b : Nat} {cs : Array Value} {T : TypeId} (h : w.heap[b]? = some (.cells cs T (0, 0))) (o : Nat) : w.frozen? ⟨b, o, none⟩ = false := by
 simp [World.frozen?, h]
theorem heap_set {w : World} {b : Nat} {cs : Array Value} {T : TypeId} {f : Nat × Nat} (h : w.heap[b]? = some (.cells cs T f)) (i : Nat) (u : Value) :
 (w.setCell ⟨b, i, none⟩ u).heap[b]? = some (.cells (cs.setIfInBounds i u) T f) := by
 simp only [World.setCell, Array.getElem?_modify, if_true, h]; rfl
theorem heap_new (w : World) (o : Obj) : (w.alloc o).heap[w.heap.size]? = some o := by
 show (w.heap.push o)[w.heap.size]? = _
 rw [Array.getElem?_push, if_pos rfl]
theorem heap_old {w : World} {b : Nat} {o : Obj} (h : w.heap[b]? = some o) (o' : Obj) : (w.alloc o').heap[b]? = some o := by
 rw [Below.heap_alloc w o' b (lt_of h)]; exact h
theorem heap_far {w : World} {b : Nat} {o : Obj} (h : w.heap[b]? = some o) {p : Addr} (hp : b ≠ p.block) (u : Value) : (w.setCell p u).heap[b]? = some o := by
 rw [Below.heap_setCell w p u b hp]; exact h
theorem own_set {w : World} {base : Nat} {e : TypeId} {size n : Nat} {v : Value} {xs : List Value} (h : w.ownsRow base e size v n xs) {p : Addr} (hp : ∀ k, v.ownBlock = some k → k ≠ p.block) (u : Value) : (w.setCell p u).ownsRow base e size v n xs :=
 own_move h (fun k hk => Below.heap_setCell w p u k (hp k hk))
theorem own_low {w : World} {base base' : Nat} {e : TypeId} {size n : Nat} {v : Value} {xs : List Value} (h : w.ownsRow base e size v n xs) (hb : base' ≤ base) : w.ownsRow base' e size v n xs := own_weaken h hb
end H
end Go.Proofs.YtclmjmfcggkpaaaGreatDoor
namespace Go.Proofs.YtclmjmfcggkpaaaGreatDoor
open Go.RowKit Go.Proofs.YtclmjmfcggkpaaaGreatDoorW.PrintWords Go.Proofs.YtclmjmfcggkpaaaGreatDoorW.PrintLast Go.Proofs.YtclmjmfcggkpaaaGreatDoorW.PrintMore
namespace H
theorem inf5 : (Tryz.prog.info? 5).map (fun i => (i.zero, i.size, i.bytes)) = some (some (.int .u8 0), 1, 1) := by kernel_rfl

/-- A buffer at block b holds the bytes xs; its row lies behind it. -/
def Buf (w : World) (b : Nat) (xs : List Int) : Prop :=
 ∃ v, w.heap[b]? = some (.cells #[v] 143 (0, 0)) ∧ w.ownsRow (b + 1) 5 1 v xs.length (nums .u8 xs)
theorem Buf.below {w w' : World} {b : Nat} {xs : List Int} (h : Buf w b xs) (hb : Below w.heap.size w w') : Buf w' b xs := by
 obtain ⟨v, h1, h2⟩ := h
 exact ⟨v, (hb.block b (lt_of h1)).trans h1, pw_own_below h2 hb⟩
theorem Buf.lt {w : World} {b : Nat} {xs : List Int} (h : Buf w b xs) : b < w.heap.size := by obtain ⟨v, h1, h2⟩ := h; exact lt_of h1

set_option maxHeartbeats 400000 in
set_option maxRecDepth 100000 in
theorem wb (b : Nat) (xs : List Int) (c : Int) (w : World) (hB : Buf w b xs) (hl : xs.length + 1 ≤ 140737488355328) :
 Calls Tryz.prog 91 #[.pointer (some ⟨b, 0, none⟩), .int .u8 c] w fun e w' => e = .returned .nilIface ∧ Buf w' b (xs ++ [c]) ∧ Below b w w' := by
 obtain ⟨v, hb, ho⟩ := hB
 have hc := cell_of hb
 have hlt : b < w.heap.size := lt_of hb
 have Hb := Aside0.mk hb; clear hb
 have Ho := Aside0.mk ho; clear ho
 go_enter Tryz.func91, Tryz.ntmps91
 go_wp2_with (at_builtin; refine print_append_num (w0 := w) (b + 1) rfl (.tmp 9) (.tmp 11) 104 5 .u8 1 rfl Tryz.underlying104 inf5 (by omega) v xs c rfl rfl Ho.out (Below.refl _ _) (by omega) (by omega) ?_; intro v1 w1 ho1 hb1 hg1 hat1; obtain ⟨A1, c1, rfl⟩ := own_slice ho1; have hB1 := (hb1.block b (by omega)).trans Hb.out; have hc1 := cell_of hB1; have hf1 := free_of hB1 0; have HB1 := Aside0.mk hB1; have HO1 := Aside0.mk ho1; clear hB1 ho1 hg1 hat1)
 go_ret
 exact ⟨rfl, ⟨_, by simpa using heap_set HB1.out 0 _, by simpa using own_set (p := ⟨b, 0, none⟩) HO1.out (fun k hk => by have := own_base HO1.out k hk; show k ≠ b; omega) _⟩, Below.setCell (B := b) (p := ⟨b, 0, none⟩) (hb1.mono (by omega)) (Nat.le_refl _) _⟩

set_option maxHeartbeats 400000 in
set_option maxRecDepth 100000 in
theorem ws (b : Nat) (xs : List Int) (s : ByteArray) (w : World) (hB : Buf w b xs) (hl : xs.length + s.size ≤ 140737488355328) :
 Calls Tryz.prog 92 #[.pointer (some ⟨b, 0, none⟩), .string s] w fun e w' => e = .returned (.tuple #[.int .i64 s.size, .nilIface]) ∧ Buf w' b (xs ++ bytesOf s) ∧ Below b w w' := by
 obtain ⟨v, hb, ho⟩ := hB
 have hc := cell_of hb
 have hlt : b < w.heap.size := lt_of hb
 have Hb := Aside0.mk hb; clear hb
 have Ho := Aside0.mk ho; clear ho
 go_enter Tryz.func92, Tryz.ntmps92
 go_wp2_with (at_builtin; refine print_append_str (w0 := w) (b + 1) rfl (.tmp 10) (.tmp 11) 104 9 5 rfl Tryz.underlying104 Tryz.underlying9 inf5 v xs s rfl rfl Ho.out (Below.refl _ _) (by omega) (by omega) ?_; intro v1 w1 ho1 hb1 hg1; obtain ⟨A1, c1, rfl⟩ := own_slice ho1; have hB1 := (hb1.block b (by omega)).trans Hb.out; have hc1 := cell_of hB1; have hf1 := free_of hB1 0; have HB1 := Aside0.mk hB1; have HO1 := Aside0.mk ho1; clear hB1 ho1 hg1)
 go_ret2
 exact ⟨rfl, ⟨_, by simpa using heap_set HB1.out 0 _, by simpa using own_set (p := ⟨b, 0, none⟩) HO1.out (fun k hk => by have := own_base HO1.out k hk; show k ≠ b; omega) _⟩, Below.setCell (B := b) (p := ⟨b, 0, none⟩) (hb1.mono (by omega)) (Nat.le_refl _) _⟩

set_option maxHeartbeats 400000 in
set_option maxRecDepth 100000 in
theorem bstr (b : Nat) (xs : List Int) (w : World) (hB : Buf w b xs) :
 Calls Tryz.prog 94 #[.pointer (some ⟨b, 0, none⟩)] w fun e w' => e = .returned (.string (strOfNums xs)) ∧ w = w' := by
 obtain ⟨v, hb, ho⟩ := hB
 have hc := cell_of hb
 have hrun := own_string (P := Tryz.prog) Tryz.underlying104 Tryz.underlying5 Tryz.underlying9 ho
 go_enter Tryz.func94, Tryz.ntmps94
 go_wp2
 go_ret
 exact ⟨rfl, rfl⟩
end H
end Go.Proofs.YtclmjmfcggkpaaaGreatDoor
