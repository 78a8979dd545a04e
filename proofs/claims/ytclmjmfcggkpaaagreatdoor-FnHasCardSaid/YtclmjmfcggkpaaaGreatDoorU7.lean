import Derived.Test.YtclmjmfcggkpaaaGreatDoorU4
import Derived.Test.YtclmjmfcggkpaaaGreatDoorU5
import Derived.Test.YtclmjmfcggkpaaaGreatDoorU6
namespace Go.Proofs.YtclmjmfcggkpaaaGreatDoor
open Go.RowKit Go.Proofs.YtclmjmfcggkpaaaGreatDoorW.PrintWords Go.Proofs.YtclmjmfcggkpaaaGreatDoorW.PrintLast Go.Proofs.YtclmjmfcggkpaaaGreatDoorW.PrintMore
namespace H

/-! ### What a call leaves as it was: all but the blocks of S, and new ones -/
structure Fr (S : Nat → Prop) (w w' : World) : Prop where
 os : w'.os = w.os
 tape : w'.tape = w.tape
 output : w'.output = w.output
 size : w.heap.size ≤ w'.heap.size
 block : ∀ k, k < w.heap.size → ¬ S k → w'.heap[k]? = w.heap[k]?
theorem lt_of {w : World} {b : Nat} {o : Obj} (h : w.heap[b]? = some o) : b < w.heap.size := (Array.getElem?_eq_some_iff.1 h).1
namespace Fr
variable {S S2 : Nat → Prop} {w w1 w2 : World}
theorem refl (S : Nat → Prop) (w : World) : Fr S w w := ⟨rfl, rfl, rfl, Nat.le_refl _, fun _ _ _ => rfl⟩
theorem mono (h : Fr S w w1) (hs : ∀ k, k < w.heap.size → S k → S2 k) : Fr S2 w w1 := ⟨h.os, h.tape, h.output, h.size, fun k hk hn => h.block k hk (fun h' => hn (hs k hk h'))⟩
theorem trans (h : Fr S w w1) (k : Fr S2 w1 w2) (hs : ∀ k, k < w.heap.size → S2 k → S k) : Fr S w w2 :=
 ⟨k.os.trans h.os, k.tape.trans h.tape, k.output.trans h.output, Nat.le_trans h.size k.size, fun i hi hn => (k.block i (Nat.lt_of_lt_of_le hi h.size) (fun h' => hn (hs i hi h'))).trans (h.block i hi hn)⟩
theorem of_below (h : Below w.heap.size w w1) : Fr S w w1 := ⟨h.os, h.tape, h.output, h.size, fun k hk _ => h.block k hk⟩
theorem below {B : Nat} (h : Fr S w w1) (hB : B ≤ w.heap.size) (hs : ∀ k, k < w.heap.size → S k → B ≤ k) : Below B w w1 :=
 ⟨h.os, h.tape, h.output, h.size, fun k hk => h.block k (Nat.lt_of_lt_of_le hk hB) (fun h' => by have := hs k (by omega) h'; omega)⟩
theorem heap (h : Fr S w w1) {b : Nat} {o : Obj} (hb : w.heap[b]? = some o) (hn : ¬ S b) : w1.heap[b]? = some o := (h.block b (lt_of hb) hn).trans hb
theorem own (h : Fr S w w1) {base : Nat} {e : TypeId} {size n : Nat} {v : Value} {xs : List Value} (ho : w.ownsRow base e size v n xs) (hn : ∀ k, v.ownBlock = some k → ¬ S k) : w1.ownsRow base e size v n xs :=
 own_move ho (fun k hk => h.block k (own_lt ho k hk) (hn k hk))
theorem alloc (h : Fr S w w1) (o : Obj) : Fr S w (w1.alloc o) := h.trans (S2 := fun _ => False) (of_below ((Below.refl _ _).alloc (Nat.le_refl _) o)) (fun _ _ h' => h'.elim)
theorem setCell (h : Fr S w w1) {p : Addr} (hp : S p.block ∨ w.heap.size ≤ p.block) (u : Value) : Fr S w (w1.setCell p u) :=
 ⟨h.os, h.tape, h.output, by rw [show (w1.setCell p u).heap.size = w1.heap.size from by simp [World.setCell]]; exact h.size, fun k hk hn => by
  rw [Below.heap_setCell w1 p u k (fun e => by subst e; rcases hp with hp | hp; exact hn hp; omega)]; exact h.block k hk hn⟩
theorem drew (h : Fr S w w1) : Fr S w w1.drew := ⟨h.os, h.tape, h.output, h.size, h.block⟩
theorem grown {row : Option Nat} (h : Fr S w w1) (hg : w1.grownBy w2 row) (hr : ∀ k, row = some k → S k ∨ w.heap.size ≤ k) : Fr S w w2 :=
 ⟨hg.os.trans h.os, hg.tape.trans h.tape, hg.output.trans h.output, Nat.le_trans h.size hg.size, fun k hk hn => (hg.block k (Nat.lt_of_lt_of_le hk h.size) (fun e => by rcases hr k e.symm with h' | h'; exact hn h'; omega)).trans (h.block k hk hn)⟩
end Fr

/-! ### Blocks of cells -/
theorem cell_at {w : World} {b : Nat} {cs : Array Value} {T : TypeId} {f : Nat × Nat} (h : w.heap[b]? = some (.cells cs T f)) (i : Nat) : w.cell? ⟨b, i, none⟩ = cs[i]? := by
 simp [World.cell?, h]
theorem cell_of {w : World} {b : Nat} {v : Value} {T : TypeId} (h : w.heap[b]? = some (.cells #[v] T (0, 0))) : w.cell? ⟨b, 0, none⟩ = some v := by
 simp [World.cell?, h]
theorem free_of {w : World} {b : Nat} {cs : Array Value} {T : TypeId} (h : w.heap[b]? = some (.cells cs T (0, 0))) (o : Nat) : w.frozen? ⟨b, o, none⟩ = false := by
 simp [World.frozen?, h]
theorem heap_set {w : World} {b : Nat} {cs : Array Value} {T : TypeId} {f : Nat × Nat} (h : w.heap[b]? = some (.cells cs T f)) (i : Nat) (u : Value) :
 (w.setCell ⟨b, i, none⟩ u).heap[b]? = some (.cells (cs.setIfInBounds i u) T f) := by
 simp only [World.setCell, Array.getElem?_modify, if_true, h]; rfl
theorem heap_new (w : World) (o : Obj) : (w.alloc o).heap[w.heap.size]? = some o := by
 show (w.heap.push o)[w.heap.size]? = _
 rw [Array.getElem?_push, if_pos rfl]
theorem heap_old {w : World} {b : Nat} {o : Obj} (h : w.heap[b]? = some o) (o' : Obj) : (w.alloc o').heap[b]? = some o := by
 rw [Below.heap_alloc w o' b (lt_of h)]; exact h
theorem heap_far {w : World} {b : Nat} {o : Obj} (h : w.heap[b]? = some o) {p : Addr} (hp : b ≠ p.block) (u : Value) : (w.setCell p u).heap[b]? = some o := by
 rw [Below.heap_setCell w p u b hp]; exact h
theorem own_set {w : World} {base : Nat} {e : TypeId} {size n : Nat} {v : Value} {xs : List Value} (h : w.ownsRow base e size v n xs) {p : Addr} (hp : ∀ k, v.ownBlock = some k → k ≠ p.block) (u : Value) : (w.setCell p u).ownsRow base e size v n xs :=
 own_move h (fun k hk => Below.heap_setCell w p u k (hp k hk))
theorem own_low {w : World} {base base' : Nat} {e : TypeId} {size n : Nat} {v : Value} {xs : List Value} (h : w.ownsRow base e size v n xs) (hb : base' ≤ base) : w.ownsRow base' e size v n xs := own_weaken h hb
end H
end Go.Proofs.YtclmjmfcggkpaaaGreatDoor
namespace Go.Proofs.YtclmjmfcggkpaaaGreatDoor
open Go.RowKit Go.Proofs.YtclmjmfcggkpaaaGreatDoorW.PrintWords Go.Proofs.YtclmjmfcggkpaaaGreatDoorW.PrintLast Go.Proofs.YtclmjmfcggkpaaaGreatDoorW.PrintMore
namespace H
theorem inf5 : (Tryz.prog.info? 5).map (fun i => (i.zero, i.size, i.bytes)) = some (some (.int .u8 0), 1, 1) := by kernel_rfl

/-- A buffer at block b holds the bytes xs; its row lies behind it. -/
def Buf (w : World) (b : Nat) (xs : List Int) : Prop :=
 ∃ v, w.heap[b]? = some (.cells #[v] 143 (0, 0)) ∧ w.ownsRow (b + 1) 5 1 v xs.length (nums .u8 xs)
theorem Buf.below {w w' : World} {b : Nat} {xs : List Int} (h : Buf w b xs) (hb : Below w.heap.size w w') : Buf w' b xs := by
 obtain ⟨v, h1, h2⟩ := h
 exact ⟨v, (hb.block b (lt_of h1)).trans h1, pw_own_below h2 hb⟩
theorem Buf.lt {w : World} {b : Nat} {xs : List Int} (h : Buf w b xs) : b < w.heap.size := by obtain ⟨v, h1, h2⟩ := h; exact lt_of h1

set_option maxHeartbeats 400000 in
set_option maxRecDepth 100000 in
theorem wb (b : Nat) (xs : List Int) (c : Int) (w : World) (hB : Buf w b xs) (hl : xs.length + 1 ≤ 140737488355328) :
 Calls Tryz.prog 91 #[.pointer (some ⟨b, 0, none⟩), .int .u8 c] w fun e w' => e = .returned .nilIface ∧ Buf w' b (xs ++ [c]) ∧ Below b w w' := by
 obtain ⟨v, hb, ho⟩ := hB
 have hc := cell_of hb
 have hlt : b < w.heap.size := lt_of hb
 have Hb := Aside0.mk hb; clear hb
 have Ho := Aside0.mk ho; clear ho
 go_enter Tryz.func91, Tryz.ntmps91
 go_wp2_with (at_builtin; refine print_append_num (w0 := w) (b + 1) rfl (.tmp 9) (.tmp 11) 104 5 .u8 1 rfl Tryz.underlying104 inf5 (by omega) v xs c rfl rfl Ho.out (Below.refl _ _) (by omega) (by omega) ?_; intro v1 w1 ho1 hb1 hg1 hat1; obtain ⟨A1, c1, rfl⟩ := own_slice ho1; have hB1 := (hb1.block b (by omega)).trans Hb.out; have hc1 := cell_of hB1; have hf1 := free_of hB1 0; have HB1 := Aside0.mk hB1; have HO1 := Aside0.mk ho1; clear hB1 ho1 hg1 hat1)
 go_ret
 exact ⟨rfl, ⟨_, by simpa using heap_set HB1.out 0 _, by simpa using own_set (p := ⟨b, 0, none⟩) HO1.out (fun k hk => by have := own_base HO1.out k hk; show k ≠ b; omega) _⟩, Below.setCell (B := b) (p := ⟨b, 0, none⟩) (hb1.mono (by omega)) (Nat.le_refl _) _⟩

set_option maxHeartbeats 400000 in
set_option maxRecDepth 100000 in
theorem ws (b : Nat) (xs : List Int) (s : ByteArray) (w : World) (hB : Buf w b xs) (hl : xs.length + s.size ≤ 140737488355328) :
 Calls Tryz.prog 92 #[.pointer (some ⟨b, 0, none⟩), .string s] w fun e w' => e = .returned (.tuple #[.int .i64 s.size, .nilIface]) ∧ Buf w' b (xs ++ bytesOf s) ∧ Below b w w' := by
 obtain ⟨v, hb, ho⟩ := hB
 have hc := cell_of hb
 have hlt : b < w.heap.size := lt_of hb
 have Hb := Aside0.mk hb; clear hb
 have Ho := Aside0.mk ho; clear ho
 go_enter Tryz.func92, Tryz.ntmps92
 go_wp2_with (at_builtin; refine print_append_str (w0 := w) (b + 1) rfl (.tmp 10) (.tmp 11) 104 9 5 rfl Tryz.underlying104 Tryz.underlying9 inf5 v xs s rfl rfl Ho.out (Below.refl _ _) (by omega) (by omega) ?_; intro v1 w1 ho1 hb1 hg1; obtain ⟨A1, c1, rfl⟩ := own_slice ho1; have hB1 := (hb1.block b (by omega)).trans Hb.out; have hc1 := cell_of hB1; have hf1 := free_of hB1 0; have HB1 := Aside0.mk hB1; have HO1 := Aside0.mk ho1; clear hB1 ho1 hg1)
 go_ret2
 exact ⟨rfl, ⟨_, by simpa using heap_set HB1.out 0 _, by simpa using own_set (p := ⟨b, 0, none⟩) HO1.out (fun k hk => by have := own_base HO1.out k hk; show k ≠ b; omega) _⟩, Below.setCell (B := b) (p := ⟨b, 0, none⟩) (hb1.mono (by omega)) (Nat.le_refl _) _⟩

set_option maxHeartbeats 400000 in
set_option maxRecDepth 100000 in
theorem bstr (b : Nat) (xs : List Int) (w : World) (hB : Buf w b xs) :
 Calls Tryz.prog 94 #[.pointer (some ⟨b, 0, none⟩)] w fun e w' => e = .returned (.string (strOfNums xs)) ∧ w = w' := by
 obtain ⟨v, hb, ho⟩ := hB
 have hc := cell_of hb
 have hrun := own_string (P := Tryz.prog) Tryz.underlying104 Tryz.underlying5 Tryz.underlying9 ho
 go_enter Tryz.func94, Tryz.ntmps94
 go_wp2
 go_ret
 exact ⟨rfl, rfl⟩
end H
end Go.Proofs.YtclmjmfcggkpaaaGreatDoor
namespace Go.Proofs.YtclmjmfcggkpaaaGreatDoor
open Go.RowKit Go.Proofs.YtclmjmfcggkpaaaGreatDoorW.PrintWords Go.Proofs.YtclmjmfcggkpaaaGreatDoorW.PrintLast Go.Proofs.YtclmjmfcggkpaaaGreatDoorW.PrintMore
namespace H
/-! ### Escaping, plainly -/
def unres (c : Int) : Bool := decide ((97 ≤ c ∧ c ≤ 122) ∨ (65 ≤ c ∧ c ≤ 90) ∨ (48 ≤ c ∧ c ≤ 57) ∨ c = 45 ∨ c = 46 ∨ c = 95 ∨ c = 126)
def hexd (n : Int) : Int := if n < 10 then 48 + n else 55 + n
def esc1 (slash : Bool) (c : Int) : List Int := if unres c || (slash && c == 47) then [c] else [37, hexd (c / 16), hexd (c % 16)]
def escB (slash : Bool) (xs : List Int) : List Int := xs.flatMap (esc1 slash)
theorem escB_snoc (slash : Bool) (xs : List Int) (c : Int) : escB slash (xs ++ [c]) = escB slash xs ++ esc1 slash c := by simp [escB]
theorem esc1_len (slash : Bool) (c : Int) : (esc1 slash c).length ≤ 3 := by unfold esc1; split <;> simp
theorem escB_len (slash : Bool) (xs : List Int) : (escB slash xs).length ≤ 3 * xs.length := by
 induction xs with
 | nil => simp [escB]
 | cons x xs ih =>
   have := esc1_len slash x
   simp only [escB, List.flatMap_cons, List.length_append, List.length_cons] at *
   omega
theorem noEsc_eq (c : Int) : PX.smhttp_noEscape.f c = some (unres c) := by
 unfold PX.smhttp_noEscape.f unres
 repeat' split
 all_goals (congr 1; rw [Bool.eq_iff_iff]; simp; try omega)
theorem and15 (c : Int) (h0 : 0 ≤ c) (h1 : c ≤ 255) : Go.bits .and .u8 c 15 = c % 16 := by
 have : ∀ n : Nat, n < 256 → Go.bits .and .u8 (n : Int) 15 = (n : Int) % 16 := by decide +kernel
 obtain ⟨n, rfl⟩ := Int.eq_ofNat_of_zero_le h0
 exact this n (by omega)
theorem hex_bt (n : Int) (h0 : 0 ≤ n) (h1 : n < 16) : bt (⟨#[48, 49, 50, 51, 52, 53, 54, 55, 56, 57, 65, 66, 67, 68, 69, 70]⟩ : ByteArray) n = hexd n := by
 have : ∀ m : Nat, m < 16 → bt (⟨#[48, 49, 50, 51, 52, 53, 54, 55, 56, 57, 65, 66, 67, 68, 69, 70]⟩ : ByteArray) (m : Int) = hexd (m : Int) := by decide +kernel
 obtain ⟨m, rfl⟩ := Int.eq_ofNat_of_zero_le h0
 exact this m (by omega)
theorem hexSign_eq (c : Int) (h0 : 0 ≤ c) (h1 : c ≤ 255) : PX.smhttp_hexSign.f c = some (strOfNums [37, hexd (c / 16), hexd (c % 16)]) := by
 unfold PX.smhttp_hexSign.f
 rw [and15 c h0 h1, if_pos (by omega), if_pos (by omega), if_pos (by omega), if_pos (by omega), hex_bt _ (by omega) (by omega), hex_bt _ (by omega) (by omega)]
end H
end Go.Proofs.YtclmjmfcggkpaaaGreatDoor
namespace Go.Proofs.YtclmjmfcggkpaaaGreatDoor
open Go.RowKit Go.Proofs.YtclmjmfcggkpaaaGreatDoorW.PrintWords Go.Proofs.YtclmjmfcggkpaaaGreatDoorW.PrintLast Go.Proofs.YtclmjmfcggkpaaaGreatDoorW.PrintMore
namespace H
theorem noEsc_call (c : Int) (b : Bool) (w : World) (h : unres c = b) : Calls Tryz.prog 90 #[.int .u8 c] w fun e w' => e = .returned (.bool b) ∧ Below w.heap.size w w' :=
 (PX.smhttp_noEscape.calls c b w (by rw [noEsc_eq, h])).mono fun _ _ ⟨h1, h2⟩ => ⟨h1, h2.below⟩
theorem step_below {B : Nat} {w0 w w1 : World} (h : Below B w0 w) (hB : B ≤ w.heap.size) (k : Below w.heap.size w w1) : Below B w0 w1 := below_then h hB k
theorem hexSign_call (c : Int) (w : World) (h0 : 0 ≤ c) (h1 : c ≤ 255) : Calls Tryz.prog 93 #[.int .u8 c] w fun e w' => e = .returned (.string (strOfNums [37, hexd (c / 16), hexd (c % 16)])) ∧ Below w.heap.size w w' :=
 PX.smhttp_hexSign.calls c _ w (hexSign_eq c h0 h1)
theorem bytes_take (s : ByteArray) (k : Nat) (h : k < s.size) : (bytesOf s).take (k + 1) = (bytesOf s).take k ++ [bt s k] := by
 rw [List.take_succ_eq_append_getElem (by rw [bytesOf_length]; exact h)]
 congr 2
 have := rd_bytesOf s (k : Int)
 simp only [rd, Int.toNat_natCast] at this
 rw [← this, List.getD_eq_getElem?_getD, List.getElem?_eq_getElem (by rw [bytesOf_length]; exact h)]
 rfl
theorem bytesOf_strOf (xs : List Int) (h : ∀ x ∈ xs, 0 ≤ x ∧ x ≤ 255) : bytesOf (strOfNums xs) = xs := by
 unfold bytesOf
 rw [strOfNums_data, List.map_map]
 conv => rhs; rw [← List.map_id xs]
 apply List.map_congr_left
 intro x hx
 have := h x hx
 simp only [Function.comp, id, UInt8.toNat_ofNat']
 omega
theorem hexd_range (n : Int) (h0 : 0 ≤ n) (h1 : n < 16) : 0 ≤ hexd n ∧ hexd n ≤ 255 := by unfold hexd; split <;> omega
set_option maxHeartbeats 400000 in
set_option maxRecDepth 100000 in
theorem escPath (s : ByteArray) (sep : Bool) (w : World) (hs : 3 * s.size ≤ 140737488355328) :
 Calls Tryz.prog 57 #[.string s, .bool sep] w fun e w' => e = .returned (.string (strOfNums (escB (!sep) (bytesOf s)))) ∧ Below w.heap.size w w' := by
 go_enter Tryz.func57, Tryz.ntmps57
 go_wp2_with fail
 go_loopg [6] s.size (fun g v6 w' => ∃ k : Nat, k ≤ s.size ∧ v6 = .int .i64 k ∧ g = s.size - k ∧ Aside0 (Buf w' w.heap.size (escB (!sep) ((bytesOf s).take k))) ∧ Aside0 (Below w.heap.size w w'))
 case atStart => exact ⟨0, Nat.zero_le _, rfl, by omega, ⟨⟨_, by simpa using heap_new w _, own_nil _ _ _ _⟩⟩, ⟨below_alloc (Below.refl _ _) _⟩⟩
 case round =>
  obtain ⟨k, hk, rfl, hg, HB, HL⟩ := hrel
  have hwl : w.heap.size < wr.heap.size := HB.out.lt
  by_cases hlt : k < s.size
  ·have hx : bt s k = ((s[k]'hlt).toNat : Int) := by simp [bt, hlt]
   have hr := bt_range s (k : Int)
   have hlen := escB_len (!sep) ((bytesOf s).take k)
   have htk : ((bytesOf s).take k).length ≤ k := List.length_take_le _ _
   have hsn := escB_snoc (!sep) ((bytesOf s).take k) (bt s k)
   have hts := bytes_take s k hlt
   rw [← hts] at hsn
   rw [hx] at hr hsn
   clear hx hts
   replace hsn := Aside0.mk hsn
   replace hg := Aside0.mk hg
   go_wp2_with fail
   generalize ((s[k]'hlt).toNat : Int) = c at *
   cases hu : unres c with
   | true =>
     refine (noEsc_call c true _ hu).mono ?_
     rintro e w2 ⟨rfl, hb2⟩
     replace HB := Aside0.mk (HB.out.below hb2); replace HL := Aside0.mk (step_below HL.out (by omega) hb2); have hwl2 := HB.out.lt; clear hb2
     replace hu := Aside0.mk hu
     go_wp2_with fail
     refine (wb _ (escB (!sep) ((bytesOf s).take k)) c _ HB.out (by omega)).mono ?_
     rintro e w1 ⟨rfl, hb1, hl1⟩
     replace HB := Aside0.mk hb1; replace HL := Aside0.mk (HL.out.trans hl1); clear hb1 hl1
     go_wp2_with fail
     go_roundg (s.size - (k + 1))
     case rel => exact ⟨k + 1, by omega, by go_num, by omega, ⟨by rw [hsn.out]; unfold esc1; rw [hu.out]; simpa using HB.out⟩, HL⟩
     case measure => have := hg.out; omega
   | false =>
     refine (noEsc_call c false _ hu).mono ?_
     rintro e w2 ⟨rfl, hb2⟩
     replace HB := Aside0.mk (HB.out.below hb2); replace HL := Aside0.mk (step_below HL.out (by omega) hb2); have hwl2 := HB.out.lt; clear hb2
     replace hu := Aside0.mk hu
     go_wp2_with fail
     ·refine (wb _ (escB (!sep) ((bytesOf s).take k)) 47 _ HB.out (by omega)).mono ?_
      rintro e w1 ⟨rfl, hb1, hl1⟩
      replace HB := Aside0.mk hb1; replace HL := Aside0.mk (HL.out.trans hl1); clear hb1 hl1
      go_wp2_with fail
      go_roundg (s.size - (k + 1))
      case rel => exact ⟨k + 1, by omega, by go_num, by omega, ⟨by rw [hsn.out, show esc1 (!sep) c = [47] from by simp [esc1, show unres 47 = false from by decide, *]]; exact HB.out⟩, HL⟩
      case measure => have := hg.out; omega
     ·refine (hexSign_call 47 _ (by omega) (by omega)).mono ?_
      rintro e w3 ⟨rfl, hb3⟩
      replace HB := Aside0.mk (HB.out.below hb3); replace HL := Aside0.mk (step_below HL.out (by omega) hb3); have hwl3 := HB.out.lt; clear hb3
      go_wp2_with fail
      refine (ws _ (escB (!sep) ((bytesOf s).take k)) _ _ HB.out ?hl).mono ?_
      case hl => rw [strOfNums_size]; simp; omega
      rintro e w1 ⟨rfl, hb1, hl1⟩
      rw [bytesOf_strOf _ (by decide)] at hb1
      replace HB := Aside0.mk hb1; replace HL := Aside0.mk (HL.out.trans hl1); clear hb1 hl1
      go_wp2_with fail
      go_roundg (s.size - (k + 1))
      case rel => exact ⟨k + 1, by omega, by go_num, by omega, ⟨by rw [hsn.out, show esc1 (!sep) c = [37, hexd 2, hexd 15] from by simp [esc1, show unres 47 = false from by decide, *]]; exact HB.out⟩, HL⟩
      case measure => have := hg.out; omega
     ·refine (hexSign_call c _ (by omega) (by omega)).mono ?_
      rintro e w3 ⟨rfl, hb3⟩
      replace HB := Aside0.mk (HB.out.below hb3); replace HL := Aside0.mk (step_below HL.out (by omega) hb3); have hwl3 := HB.out.lt; clear hb3
      have h1 := hexd_range (c / 16) (by omega) (by omega)
      have h2 := hexd_range (c % 16) (by omega) (by omega)
      go_wp2_with fail
      refine (ws _ (escB (!sep) ((bytesOf s).take k)) (strOfNums [37, hexd (c / 16), hexd (c % 16)]) _ HB.out (by rw [strOfNums_size]; simp; omega)).mono ?_
      rintro e w1 ⟨rfl, hb1, hl1⟩
      rw [bytesOf_strOf _ (by simp; omega)] at hb1
      replace HB := Aside0.mk hb1; replace HL := Aside0.mk (HL.out.trans hl1); clear hb1 hl1
      go_wp2_with fail
      go_roundg (s.size - (k + 1))
      case rel => exact ⟨k + 1, by omega, by go_num, by omega, ⟨by rw [hsn.out, show esc1 (!sep) c = [37, hexd (c / 16), hexd (c % 16)] from by simp [esc1, hu.out, *]]; exact HB.out⟩, HL⟩
      case measure => have := hg.out; omega
  ·rw [List.take_of_length_le (show (bytesOf s).length ≤ k by rw [bytesOf_length]; omega)] at HB
   go_wp2_with fail
   refine (bstr _ _ _ HB.out).mono ?_
   rintro e w' ⟨rfl, rfl⟩
   go_wp2
   go_ret
   exact ⟨rfl, HL.out⟩
end H
end Go.Proofs.YtclmjmfcggkpaaaGreatDoor
