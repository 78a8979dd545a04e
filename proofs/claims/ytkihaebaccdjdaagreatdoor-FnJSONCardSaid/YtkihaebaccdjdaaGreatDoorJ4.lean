import Derived.Test.YtkihaebaccdjdaaGreatDoorProg
import Derived.Below
import Derived.Deep.Draws
import Derived.Deep.AppendLies
import Derived.Maps.AppendAt
import Derived.OwnWalk
import Derived.Laws.BytesArg
import Derived.Laws.MakeOwn
import Derived.Laws.OwnMore
import Derived.Deep.OwnRows
import Derived.Tactics
import Derived.Lib.ConvBytes
import Derived.Laws.Slices
import Derived.WalkKit
import Derived.KernelRfl
import Derived.RowKit3
import Derived.Deep.LoopGhost
import Derived.Deep.QuietTactic
import Derived.BigQuiet
import Derived.WideLaws
import Derived.Deep.DeepCutAuto
import Derived.Deep.CutBlock
import Derived.Deep.RegionHeld3
import Derived.Laws.Rows
import Derived.Lib.AppendStr
import Derived.ArgAppend
import Derived.Laws.IdiomCopy
import Derived.OrdersHeld
import Derived.Laws.BitsLemmas
import Derived.RowKit
import Derived.Test.YtkihaebaccdjdaaGreatDoorJ0
import Derived.Test.YtkihaebaccdjdaaGreatDoorJ1
import Derived.Test.YtkihaebaccdjdaaGreatDoorJ2
import Derived.Test.YtkihaebaccdjdaaGreatDoorJ3
namespace Go.Proofs.YtkihaebaccdjdaaGreatDoor.PX
open Go.RowKit Go.Proofs.YtkihaebaccdjdaaGreatDoorW.PrintWords Go.Proofs.YtkihaebaccdjdaaGreatDoorW.PrintLast Go.Proofs.YtkihaebaccdjdaaGreatDoorW.PrintMore
attribute [local go_sem] max2_int min2_int max_two min_two max_three min_three max_four min_four   -- for this text's walks alone
set_option linter.unusedVariables false
set_option linter.unusedSimpArgs false



def errW : Option Int → Value
  | none => .nilIface
  | some c => .iface 0 (.int .i64 c)
theorem info5 : (Tryz.prog.info? 5).map (fun i => (i.zero, i.size, i.bytes)) = some (some (.int .u8 0), 1, 1) := by kernel_rfl
/-! #### struct type 45 -/
structure S45 where
  f0 : ByteArray
  f1 : ByteArray
  f2 : Bool
def z45 : S45 := ⟨(⟨#[]⟩ : ByteArray), (⟨#[]⟩ : ByteArray), false⟩
def k45 : Kd S45 := Kd.iso (Kd.pair Kd.string (Kd.pair Kd.string Kd.bool)) (fun x : S45 => (x.f0, x.f1, x.f2))
theorem k45_open {w : World} {x : S45} {cs : List Value} (h : k45.K w x cs) : cs = [.string x.f0, .string x.f1, .bool x.f2] := by
  obtain ⟨_, _, rfl, rfl, ⟨_, _, rfl, rfl, rfl⟩⟩ := h
  exact rfl
theorem k45_mk (w : World) (x : S45)  : k45.K w x [.string x.f0, .string x.f1, .bool x.f2] := ⟨[.string x.f0], [.string x.f1, .bool x.f2], rfl, rfl, ⟨[.string x.f1], [.bool x.f2], rfl, rfl, rfl⟩⟩
def rd_T45 (xs : List S45) (i : Int) : S45 := xs.getD i.toNat z45
theorem at_T45 {w : World} {A : Option Addr} {n : Nat} {xs : List S45} (h : Kd.C k45 w A n xs) (i : Int) (h0 : 0 ≤ i) (h1 : i < n) : ∃ ad , A = some ad ∧ w.cell? (ad.add (i.toNat * 3)) = some (.string (rd_T45 xs i).f0) ∧ w.cell? ⟨(ad.add (i.toNat * 3)).block, (ad.add (i.toNat * 3)).off + 1, none⟩ = some (.string (rd_T45 xs i).f1) ∧ w.cell? ⟨(ad.add (i.toNat * 3)).block, (ad.add (i.toNat * 3)).off + 2, none⟩ = some (.bool (rd_T45 xs i).f2) := by
  obtain ⟨ad, c, e, _, hK, hc0⟩ := Kd.C_get h z45 i h0 h1
  have hc : ∀ j u, c[j]? = some u → w.cell? (ad.add (i.toNat * 3 + j)) = some u := hc0
  obtain rfl := k45_open hK
  exact ⟨ad, e, hc 0 _ rfl, by rw [← add_field _ _ 1 (by omega)]; exact hc 1 _ rfl, by rw [← add_field _ _ 2 (by omega)]; exact hc 2 _ rfl⟩

/-! #### struct type 28, nested in itself -/
structure S28 where
  f0 : Int
  f1 : ByteArray
  f2 : Int
  f3 : (List ByteArray)
  f4 : (List S28)
  f5 : (List Bool)
  f6 : ByteArray
  f7 : ByteArray
  f8 : ByteArray
  f9 : (List S45)
def z28 : S28 := ⟨(0 : Int), (⟨#[]⟩ : ByteArray), (0 : Int), ([] : List ByteArray), ([] : List S28), ([] : List Bool), (⟨#[]⟩ : ByteArray), (⟨#[]⟩ : ByteArray), (⟨#[]⟩ : ByteArray), ([] : List S45)⟩
def F28 (d : Kd S28) : Kd S28 := Kd.iso (Kd.pair (Kd.int .i64) (Kd.pair Kd.string (Kd.pair (Kd.int .i64) (Kd.pair (Kd.slice 9 Kd.string) (Kd.pair (Kd.slice 28 d) (Kd.pair (Kd.slice 4 Kd.bool) (Kd.pair Kd.string (Kd.pair Kd.string (Kd.pair Kd.string (Kd.slice 45 k45)))))))))) (fun x : S28 => (x.f0, x.f1, x.f2, x.f3, x.f4, x.f5, x.f6, x.f7, x.f8, x.f9))
theorem mono28 : Kd.Mono F28 := Kd.mono_iso _ (Kd.mono_pair (Kd.mono_const _) (Kd.mono_pair (Kd.mono_const _) (Kd.mono_pair (Kd.mono_const _) (Kd.mono_pair (Kd.mono_const _) (Kd.mono_pair (Kd.mono_slice 28 Kd.mono_id) (Kd.mono_pair (Kd.mono_const _) (Kd.mono_pair (Kd.mono_const _) (Kd.mono_pair (Kd.mono_const _) (Kd.mono_pair (Kd.mono_const _) (Kd.mono_const _))))))))))
theorem sub28 : Kd.Sub F28 [4, 9, 28, 45] := Kd.sub_iso _ (Kd.sub_pair (Kd.sub_const _ (by decide)) (Kd.sub_pair (Kd.sub_const _ (by decide)) (Kd.sub_pair (Kd.sub_const _ (by decide)) (Kd.sub_pair (Kd.sub_const _ (by decide)) (Kd.sub_pair (Kd.sub_slice 28 (by decide) Kd.sub_id) (Kd.sub_pair (Kd.sub_const _ (by decide)) (Kd.sub_pair (Kd.sub_const _ (by decide)) (Kd.sub_pair (Kd.sub_const _ (by decide)) (Kd.sub_pair (Kd.sub_const _ (by decide)) (Kd.sub_const _ (by decide)))))))))))
theorem sz28 : ∀ n, (Kd.upto F28 10 [4, 9, 28, 45] n).sz = 10 := Kd.upto_sz (fun _ => rfl)
def k28 : Kd S28 := Kd.fix F28 10 [4, 9, 28, 45] sz28 (Kd.upto_E sub28)
theorem k28_open {w : World} {x : S28} {cs : List Value} (h : k28.K w x cs) : ∃ A3 c3 A4 c4 A5 c5 A9 c9, cs = [.int .i64 x.f0, .string x.f1, .int .i64 x.f2, .slice A3 x.f3.length c3, .slice A4 x.f4.length c4, .slice A5 x.f5.length c5, .string x.f6, .string x.f7, .string x.f8, .slice A9 x.f9.length c9] ∧ x.f3.length ≤ c3 ∧ Kd.string.C w A3 x.f3.length x.f3 ∧ x.f4.length ≤ c4 ∧ k28.C w A4 x.f4.length x.f4 ∧ x.f5.length ≤ c5 ∧ Kd.bool.C w A5 x.f5.length x.f5 ∧ x.f9.length ≤ c9 ∧ k45.C w A9 x.f9.length x.f9 := by
  obtain ⟨n, h⟩ := h
  cases n with
  | zero => exact h.elim
  | succ n =>
    obtain ⟨_, _, rfl, rfl, ⟨_, _, rfl, rfl, ⟨_, _, rfl, rfl, ⟨_, _, rfl, ⟨A3, c3, rfl, l3, g3⟩, ⟨_, _, rfl, ⟨A4, c4, rfl, l4, g4⟩, ⟨_, _, rfl, ⟨A5, c5, rfl, l5, g5⟩, ⟨_, _, rfl, rfl, ⟨_, _, rfl, rfl, ⟨_, _, rfl, rfl, ⟨A9, c9, rfl, l9, g9⟩⟩⟩⟩⟩⟩⟩⟩⟩⟩ := h
    exact ⟨A3, c3, A4, c4, A5, c5, A9, c9, rfl, l3, g3, l4, Kd.fix_C g4, l5, g5, l9, g9⟩
theorem k28_mk (w : World) (x : S28) {A3 : Option Addr} {c3 : Nat} (l3 : x.f3.length ≤ c3) (g3 : Kd.string.C w A3 x.f3.length x.f3) {A4 : Option Addr} {c4 : Nat} (l4 : x.f4.length ≤ c4) (g4 : k28.C w A4 x.f4.length x.f4) {A5 : Option Addr} {c5 : Nat} (l5 : x.f5.length ≤ c5) (g5 : Kd.bool.C w A5 x.f5.length x.f5) {A9 : Option Addr} {c9 : Nat} (l9 : x.f9.length ≤ c9) (g9 : k45.C w A9 x.f9.length x.f9) : k28.K w x [.int .i64 x.f0, .string x.f1, .int .i64 x.f2, .slice A3 x.f3.length c3, .slice A4 x.f4.length c4, .slice A5 x.f5.length c5, .string x.f6, .string x.f7, .string x.f8, .slice A9 x.f9.length c9] := by
  obtain ⟨n4, q4⟩ := Kd.fix_C_back mono28 g4
  have r4 := Kd.upto_C_le mono28 sz28 (show n4 ≤ n4 by omega) q4
  exact ⟨n4 + 1, ⟨[.int .i64 x.f0], [.string x.f1, .int .i64 x.f2, .slice A3 x.f3.length c3, .slice A4 x.f4.length c4, .slice A5 x.f5.length c5, .string x.f6, .string x.f7, .string x.f8, .slice A9 x.f9.length c9], rfl, rfl, ⟨[.string x.f1], [.int .i64 x.f2, .slice A3 x.f3.length c3, .slice A4 x.f4.length c4, .slice A5 x.f5.length c5, .string x.f6, .string x.f7, .string x.f8, .slice A9 x.f9.length c9], rfl, rfl, ⟨[.int .i64 x.f2], [.slice A3 x.f3.length c3, .slice A4 x.f4.length c4, .slice A5 x.f5.length c5, .string x.f6, .string x.f7, .string x.f8, .slice A9 x.f9.length c9], rfl, rfl, ⟨[.slice A3 x.f3.length c3], [.slice A4 x.f4.length c4, .slice A5 x.f5.length c5, .string x.f6, .string x.f7, .string x.f8, .slice A9 x.f9.length c9], rfl, ⟨A3, c3, rfl, l3, g3⟩, ⟨[.slice A4 x.f4.length c4], [.slice A5 x.f5.length c5, .string x.f6, .string x.f7, .string x.f8, .slice A9 x.f9.length c9], rfl, ⟨A4, c4, rfl, l4, r4⟩, ⟨[.slice A5 x.f5.length c5], [.string x.f6, .string x.f7, .string x.f8, .slice A9 x.f9.length c9], rfl, ⟨A5, c5, rfl, l5, g5⟩, ⟨[.string x.f6], [.string x.f7, .string x.f8, .slice A9 x.f9.length c9], rfl, rfl, ⟨[.string x.f7], [.string x.f8, .slice A9 x.f9.length c9], rfl, rfl, ⟨[.string x.f8], [.slice A9 x.f9.length c9], rfl, rfl, ⟨A9, c9, rfl, l9, g9⟩⟩⟩⟩⟩⟩⟩⟩⟩⟩⟩
def rd_T28 (xs : List S28) (i : Int) : S28 := xs.getD i.toNat z28
theorem at_T28 {w : World} {A : Option Addr} {n : Nat} {xs : List S28} (h : Kd.C k28 w A n xs) (i : Int) (h0 : 0 ≤ i) (h1 : i < n) : ∃ ad A3 c3 A4 c4 A5 c5 A9 c9, A = some ad ∧ w.cell? (ad.add (i.toNat * 10)) = some (.int .i64 (rd_T28 xs i).f0) ∧ w.cell? ⟨(ad.add (i.toNat * 10)).block, (ad.add (i.toNat * 10)).off + 1, none⟩ = some (.string (rd_T28 xs i).f1) ∧ w.cell? ⟨(ad.add (i.toNat * 10)).block, (ad.add (i.toNat * 10)).off + 2, none⟩ = some (.int .i64 (rd_T28 xs i).f2) ∧ w.cell? ⟨(ad.add (i.toNat * 10)).block, (ad.add (i.toNat * 10)).off + 3, none⟩ = some (.slice A3 (rd_T28 xs i).f3.length c3) ∧ w.cell? ⟨(ad.add (i.toNat * 10)).block, (ad.add (i.toNat * 10)).off + 4, none⟩ = some (.slice A4 (rd_T28 xs i).f4.length c4) ∧ w.cell? ⟨(ad.add (i.toNat * 10)).block, (ad.add (i.toNat * 10)).off + 5, none⟩ = some (.slice A5 (rd_T28 xs i).f5.length c5) ∧ w.cell? ⟨(ad.add (i.toNat * 10)).block, (ad.add (i.toNat * 10)).off + 6, none⟩ = some (.string (rd_T28 xs i).f6) ∧ w.cell? ⟨(ad.add (i.toNat * 10)).block, (ad.add (i.toNat * 10)).off + 7, none⟩ = some (.string (rd_T28 xs i).f7) ∧ w.cell? ⟨(ad.add (i.toNat * 10)).block, (ad.add (i.toNat * 10)).off + 8, none⟩ = some (.string (rd_T28 xs i).f8) ∧ w.cell? ⟨(ad.add (i.toNat * 10)).block, (ad.add (i.toNat * 10)).off + 9, none⟩ = some (.slice A9 (rd_T28 xs i).f9.length c9) ∧ (rd_T28 xs i).f3.length ≤ c3 ∧ Kd.string.C w A3 (rd_T28 xs i).f3.length (rd_T28 xs i).f3 ∧ (rd_T28 xs i).f4.length ≤ c4 ∧ k28.C w A4 (rd_T28 xs i).f4.length (rd_T28 xs i).f4 ∧ (rd_T28 xs i).f5.length ≤ c5 ∧ Kd.bool.C w A5 (rd_T28 xs i).f5.length (rd_T28 xs i).f5 ∧ (rd_T28 xs i).f9.length ≤ c9 ∧ k45.C w A9 (rd_T28 xs i).f9.length (rd_T28 xs i).f9 := by
  obtain ⟨ad, c, e, _, hK, hc0⟩ := Kd.C_get h z28 i h0 h1
  have hc : ∀ j u, c[j]? = some u → w.cell? (ad.add (i.toNat * 10 + j)) = some u := hc0
  obtain ⟨A3, c3, A4, c4, A5, c5, A9, c9, rfl, l3, g3, l4, g4, l5, g5, l9, g9⟩ := k28_open hK
  exact ⟨ad, A3, c3, A4, c4, A5, c5, A9, c9, e, hc 0 _ rfl, by rw [← add_field _ _ 1 (by omega)]; exact hc 1 _ rfl, by rw [← add_field _ _ 2 (by omega)]; exact hc 2 _ rfl, by rw [← add_field _ _ 3 (by omega)]; exact hc 3 _ rfl, by rw [← add_field _ _ 4 (by omega)]; exact hc 4 _ rfl, by rw [← add_field _ _ 5 (by omega)]; exact hc 5 _ rfl, by rw [← add_field _ _ 6 (by omega)]; exact hc 6 _ rfl, by rw [← add_field _ _ 7 (by omega)]; exact hc 7 _ rfl, by rw [← add_field _ _ 8 (by omega)]; exact hc 8 _ rfl, by rw [← add_field _ _ 9 (by omega)]; exact hc 9 _ rfl, l3, g3, l4, g4, l5, g5, l9, g9⟩

/-! #### struct type 102 -/
structure S102 where
  f0 : ByteArray
  f1 : ByteArray
def z102 : S102 := ⟨(⟨#[]⟩ : ByteArray), (⟨#[]⟩ : ByteArray)⟩
def k102 : Kd S102 := Kd.iso (Kd.pair Kd.string Kd.string) (fun x : S102 => (x.f0, x.f1))
theorem k102_open {w : World} {x : S102} {cs : List Value} (h : k102.K w x cs) : cs = [.string x.f0, .string x.f1] := by
  obtain ⟨_, _, rfl, rfl, rfl⟩ := h
  exact rfl
/-! #### struct type 172 -/
structure S172 where
  f0 : S102
  f1 : ByteArray
def z172 : S172 := ⟨z102, (⟨#[]⟩ : ByteArray)⟩
def k172 : Kd S172 := Kd.iso (Kd.pair k102 Kd.string) (fun x : S172 => (x.f0, x.f1))
theorem k172_open {w : World} {x : S172} {cs : List Value} (h : k172.K w x cs) : cs = [.string x.f0.f0, .string x.f0.f1, .string x.f1] := by
  obtain ⟨_, _, rfl, s0, rfl⟩ := h
  obtain rfl := k102_open s0
  exact rfl
def rd_T172 (xs : List S172) (i : Int) : S172 := xs.getD i.toNat z172
theorem at_T172 {w : World} {A : Option Addr} {n : Nat} {xs : List S172} (h : Kd.C k172 w A n xs) (i : Int) (h0 : 0 ≤ i) (h1 : i < n) : ∃ ad , A = some ad ∧ w.cell? (ad.add (i.toNat * 3)) = some (.string (rd_T172 xs i).f0.f0) ∧ w.cell? ⟨(ad.add (i.toNat * 3)).block, (ad.add (i.toNat * 3)).off + 1, none⟩ = some (.string (rd_T172 xs i).f0.f1) ∧ w.cell? ⟨(ad.add (i.toNat * 3)).block, (ad.add (i.toNat * 3)).off + 2, none⟩ = some (.string (rd_T172 xs i).f1) := by
  obtain ⟨ad, c, e, _, hK, hc0⟩ := Kd.C_get h z172 i h0 h1
  have hc : ∀ j u, c[j]? = some u → w.cell? (ad.add (i.toNat * 3 + j)) = some u := hc0
  obtain rfl := k172_open hK
  exact ⟨ad, e, hc 0 _ rfl, by rw [← add_field _ _ 1 (by omega)]; exact hc 1 _ rfl, by rw [← add_field _ _ 2 (by omega)]; exact hc 2 _ rfl⟩

end Go.Proofs.YtkihaebaccdjdaaGreatDoor.PX
namespace Go.Proofs.YtkihaebaccdjdaaGreatDoor
open Go.RowKit Go.Proofs.YtkihaebaccdjdaaGreatDoorW.PrintWords Go.Proofs.YtkihaebaccdjdaaGreatDoorW.PrintLast Go.Proofs.YtkihaebaccdjdaaGreatDoorW.PrintMore
namespace H

/-! ### What a call leaves as it was: all but the blocks of S, and new ones -/
structure Fr (S : Nat → Prop) (w w' : World) : Prop where
 os : w'.os = w.os
 tape : w'.tape = w.tape
 output : w'.output = w.output
 size : w.heap.size ≤ w'.heap.size
 block : ∀ k, k < w.heap.size → ¬ S k → w'.heap[k]? = w.heap[k]?
theorem lt_of {w : World} {b : Nat} {o : Obj} (h : w.heap[b]? = some o) : b < w.heap.size := (Array.getElem?_eq_some_iff.1 h).1
namespace Fr
variable {S S2 : Nat → Prop} {w w1 w2 : World}
theorem refl (S : Nat → Prop) (w : World) : Fr S w w := ⟨rfl, rfl, rfl, Nat.le_refl _, fun _ _ _ => rfl⟩
theorem mono (h : Fr S w w1) (hs : ∀ k, k < w.heap.size → S k → S2 k) : Fr S2 w w1 := ⟨h.os, h.tape, h.output, h.size, fun k hk hn => h.block k hk (fun h' => hn (hs k hk h'))⟩
theorem trans (h : Fr S w w1) (k : Fr S2 w1 w2) (hs : ∀ k, k < w.heap.size → S2 k → S k) : Fr S w w2 :=
 ⟨k.os.trans h.os, k.tape.trans h.tape, k.output.trans h.output, Nat.le_trans h.size k.size, fun i hi hn => (k.block i (Nat.lt_of_lt_of_le hi h.size) (fun h' => hn (hs i hi h'))).trans (h.block i hi hn)⟩
theorem of_below (h : Below w.heap.size w w1) : Fr S w w1 := ⟨h.os, h.tape, h.output, h.size, fun k hk _ => h.block k hk⟩
theorem below {B : Nat} (h : Fr S w w1) (hB : B ≤ w.heap.size) (hs : ∀ k, k < w.heap.size → S k → B ≤ k) : Below B w w1 :=
 ⟨h.os, h.tape, h.output, h.size, fun k hk => h.block k (Nat.lt_of_lt_of_le hk hB) (fun h' => by have := hs k (by omega) h'; omega)⟩
theorem heap (h : Fr S w w1) {b : Nat} {o : Obj} (hb : w.heap[b]? = some o) (hn : ¬ S b) : w1.heap[b]? = some o := (h.block b (lt_of hb) hn).trans hb
theorem own (h : Fr S w w1) {base : Nat} {e : TypeId} {size n : Nat} {v : Value} {xs : List Value} (ho : w.ownsRow base e size v n xs) (hn : ∀ k, v.ownBlock = some k → ¬ S k) : w1.ownsRow base e size v n xs :=
 own_move ho (fun k hk => h.block k (own_lt ho k hk) (hn k hk))
theorem alloc (h : Fr S w w1) (o : Obj) : Fr S w (w1.alloc o) := h.trans (S2 := fun _ => False) (of_below ((Below.refl _ _).alloc (Nat.le_refl _) o)) (fun _ _ h' => h'.elim)
theorem setCell (h : Fr S w w1) {p : Addr} (hp : S p.block ∨ w.heap.size ≤ p.block) (u : Value) : Fr S w (w1.setCell p u) :=
 ⟨h.os, h.tape, h.output, by rw [show (w1.setCell p u).heap.size = w1.heap.size from by simp [World.setCell]]; exact h.size, fun k hk hn => by
  rw [Below.heap_setCell w1 p u k (fun e => by subst e; rcases hp with hp | hp; exact hn hp; omega)]; exact h.block k hk hn⟩
theorem drew (h : Fr S w w1) : Fr S w w1.drew := ⟨h.os, h.tape, h.output, h.size, h.block⟩
theorem drewN (h : Fr S w w1) (n : Nat) : Fr S w (w1.drewN n) := ⟨h.os, h.tape, h.output, h.size, h.block⟩
theorem grown {row : Option Nat} (h : Fr S w w1) (hg : w1.grownBy w2 row) (hr : ∀ k, row = some k → S k ∨ w.heap.size ≤ k) : Fr S w w2 :=
 ⟨hg.os.trans h.os, hg.tape.trans h.tape, hg.output.trans h.output, Nat.le_trans h.size hg.size, fun k hk hn => (hg.block k (Nat.lt_of_lt_of_le hk h.size) (fun e => by rcases hr k e.symm with h' | h'; exact hn h'; omega)).trans (h.block k hk hn)⟩
end Fr

/-! ### Blocks of cells -/
theorem cell_at {w : World} {b : Nat} {cs : Array Value} {T : TypeId} {f : Nat × Nat} (h : w.heap[b]? = some (.cells cs T f)) (i : Nat) : w.cell? ⟨b, i, none⟩ = cs[i]? := by
 simp [World.cell?, h]
theorem cell_of {w : World} {b : Nat} {v : Value} {T : TypeId} (h : w.heap[b]? = some (.cells #[v] T (0, 0))) : w.cell? ⟨b, 0, none⟩ = some v := by
 simp [World.cell?, h]
theorem free_of {w : World} {b : Nat} {cs : Array Value} {T : TypeId} (h : w.heap[b]? = some (.cells cs T (0, 0))) (o : Nat) : w.frozen? ⟨b, o, none⟩ = false := by
 simp [World.frozen?, h]
theorem heap_set {w : World} {b : Nat} {cs : Array Value} {T : TypeId} {f : Nat × Nat} (h : w.heap[b]? = some (.cells cs T f)) (i : Nat) (u : Value) :
 (w.setCell ⟨b, i, none⟩ u).heap[b]? = some (.cells (cs.setIfInBounds i u) T f) := by
 simp only [World.setCell, Array.getElem?_modify, if_true, h]; rfl
theorem heap_new (w : World) (o : Obj) : (w.alloc o).heap[w.heap.size]? = some o := by
 show (w.heap.push o)[w.heap.size]? = _
 rw [Array.getElem?_push, if_pos rfl]
theorem heap_old {w : World} {b : Nat} {o : Obj} (h : w.heap[b]? = some o) (o' : Obj) : (w.alloc o').heap[b]? = some o := by
 rw [Below.heap_alloc w o' b (lt_of h)]; exact h
theorem own_set {w : World} {base : Nat} {e : TypeId} {size n : Nat} {v : Value} {xs : List Value} (h : w.ownsRow base e size v n xs) {p : Addr} (hp : ∀ k, v.ownBlock = some k → k ≠ p.block) (u : Value) : (w.setCell p u).ownsRow base e size v n xs :=
 own_move h (fun k hk => Below.heap_setCell w p u k (hp k hk))
theorem own_low {w : World} {base base' : Nat} {e : TypeId} {size n : Nat} {v : Value} {xs : List Value} (h : w.ownsRow base e size v n xs) (hb : base' ≤ base) : w.ownsRow base' e size v n xs := own_weaken h hb
end H
end Go.Proofs.YtkihaebaccdjdaaGreatDoor
set_option linter.unusedVariables false
set_option linter.unusedSimpArgs false
namespace Go.Proofs.YtkihaebaccdjdaaGreatDoor
open Go.RowKit Go.Proofs.YtkihaebaccdjdaaGreatDoorW.PrintWords Go.Proofs.YtkihaebaccdjdaaGreatDoorW.PrintLast Go.Proofs.YtkihaebaccdjdaaGreatDoorW.PrintMore
namespace H
/-! ### Buffers of bytes: a block of type T whose cell is a row of bytes; neither is a block of X -/
theorem inf5 : (Tryz.prog.info? 5).map (fun i => (i.zero, i.size, i.bytes)) = some (some (.int .u8 0), 1, 1) := by kernel_rfl
theorem heap_below {w w' : World} (hb : Below w.heap.size w w') {k : Nat} {o : Obj} (h : w.heap[k]? = some o) : w'.heap[k]? = some o := (hb.block k (lt_of h)).trans h
structure JB (T : TypeId) (B : Nat) (X : Nat → Prop) (b : Nat) (xs : List Int) (w : World) : Prop where
 out : ∃ v, w.heap[b]? = some (.cells #[v] T (0, 0)) ∧ w.ownsRow B 5 1 v xs.length (nums .u8 xs) ∧ ∀ k, v.ownBlock = some k → ¬ X k
 ge : B ≤ b
 ne : ¬ X b
 low : ∀ k, X k → k < w.heap.size
namespace JB
variable {T : TypeId} {B b : Nat} {X : Nat → Prop} {xs : List Int} {w w' : World}
theorem lt (h : JB T B X b xs w) : b < w.heap.size := by obtain ⟨v, h1, _⟩ := h.out; exact lt_of h1
theorem frX {S : Nat → Prop} (h : JB T B X b xs w) (hf : Fr S w w') (hS : ∀ k, S k → X k) : JB T B X b xs w' := by
 obtain ⟨v, h1, h2, h3⟩ := h.out
 exact ⟨⟨v, hf.heap h1 (fun e => h.ne (hS _ e)), hf.own h2 (fun k hk e => h3 k hk (hS _ e)), h3⟩, h.ge, h.ne, fun k hk => by have := h.low k hk; have := hf.size; omega⟩
theorem calm (h : JB T B X b xs w) (hb : Below w.heap.size w w') : JB T B X b xs w' := h.frX (Fr.of_below (S := fun _ => False) hb) (fun _ h => h.elim)
theorem re {X' : Nat → Prop} (h : JB T B X b xs w) (hX : ∀ k, X' k → X k ∨ w.heap.size ≤ k) (hl : ∀ k, X' k → k < w'.heap.size) (hb : Below w.heap.size w w') : JB T B X' b xs w' := by
 obtain ⟨v, h1, h2, h3⟩ := h.out
 have hlt := lt_of h1
 refine ⟨⟨v, heap_below hb h1, (Fr.of_below (S := fun _ => False) hb).own h2 (fun _ _ h => h), fun k hk e => ?_⟩, h.ge, fun e => ?_, hl⟩
 ·have := own_lt h2 k hk
  rcases hX k e with e | e
  ·exact h3 k hk e
  ·omega
 ·rcases hX b e with e | e
  ·exact h.ne e
  ·omega
/-- One block more that is to stay. -/
theorem also (h : JB T B X b xs w) (hb : Below w.heap.size w w') {g : Nat} (hg : w.heap.size ≤ g) (hg' : g < w'.heap.size) : JB T B (fun k => X k ∨ k = g) b xs w' :=
 h.re (fun k hk => hk.imp id (fun e => by omega)) (fun k hk => by rcases hk with e | e; have := h.low k e; have := hb.size; omega; omega) hb
theorem less {X' : Nat → Prop} (h : JB T B X b xs w) (hX : ∀ k, X' k → X k) : JB T B X' b xs w := by
 obtain ⟨v, h1, h2, h3⟩ := h.out
 exact ⟨⟨v, h1, h2, fun k hk e => h3 k hk (hX k e)⟩, h.ge, fun e => h.ne (hX b e), fun k hk => h.low k (hX k hk)⟩
end JB
/-- What a write leaves. -/
def Wrote (T : TypeId) (B : Nat) (X : Nat → Prop) (b : Nat) (xs : List Int) (w w' : World) : Prop := JB T B X b xs w' ∧ Fr (fun k => B ≤ k ∧ ¬ X k) w w'
theorem Wrote.trans {T : TypeId} {B b : Nat} {X : Nat → Prop} {xs ys : List Int} {w w1 w2 : World} (h : Wrote T B X b xs w w1) (k : Wrote T B X b ys w1 w2) : Wrote T B X b ys w w2 := ⟨k.1, h.2.trans k.2 (fun _ _ h => h)⟩
theorem Wrote.from {T : TypeId} {B b : Nat} {X X' : Nat → Prop} {xs : List Int} {w w1 w' : World} (hb : Below w.heap.size w w1) (hl : ∀ k, X k → k < w.heap.size) (h : Wrote T B X' b xs w1 w') (hX : ∀ k, X k → X' k) : Wrote T B X b xs w w' :=
 ⟨h.1.less hX, (Fr.of_below (S := fun k => B ≤ k ∧ ¬ X k) hb).trans h.2 (fun k _ hs => ⟨hs.1, fun e => hs.2 (hX k e)⟩)⟩
theorem JB.put {T : TypeId} {B b : Nat} {X : Nat → Prop} {ys : List Int} {w w1 : World} {v v1 : Value} {xs : List Int} (hT : T ≠ 5) (hb : w.heap[b]? = some (.cells #[v] T (0, 0))) (ho : w.ownsRow B 5 1 v xs.length (nums .u8 xs)) (hX : ∀ k, v.ownBlock = some k → ¬ X k)
 (ge : B ≤ b) (ne : ¬ X b) (low : ∀ k, X k → k < w.heap.size) (hg : w.grownBy w1 v.ownBlock) (h1 : w1.ownsRow B 5 1 v1 ys.length (nums .u8 ys)) (hat : v1.ownBlock = v.ownBlock ∨ ∃ b, v1.ownBlock = some b ∧ w.heap.size ≤ b) :
 Wrote T B X b ys w (w1.setCell ⟨b, 0, none⟩ v1) := by
 have hnb : ∀ k, v.ownBlock = some k → k ≠ b := fun k hk e => by
  obtain ⟨cells, hc⟩ := own_typed ho k hk
  rw [e, hb] at hc
  injection hc with hc
  injection hc with _ hc _
  exact hT hc
 have hb1 : w1.heap[b]? = some (.cells #[v] T (0, 0)) := (hg.block b (lt_of hb) (fun e => hnb b e.symm rfl)).trans hb
 have hnb1 : ∀ k, v1.ownBlock = some k → k ≠ b := fun k hk e => by
  obtain ⟨cells, hc⟩ := own_typed h1 k hk
  rw [e, hb1] at hc
  injection hc with hc
  injection hc with _ hc _
  exact hT hc
 have hs : (w1.setCell ⟨b, 0, none⟩ v1).heap.size = w1.heap.size := by simp [World.setCell]
 refine ⟨⟨⟨v1, by simpa using heap_set hb1 0 v1, own_set (p := ⟨b, 0, none⟩) h1 hnb1 v1, fun k hk e => ?_⟩, ge, ne, fun k hk => by have := low k hk; have := hg.size; omega⟩, ?_⟩
 ·rcases hat with hat | ⟨g, hg1, hg2⟩
  ·exact hX k (hat ▸ hk) e
  ·rw [hg1] at hk
   injection hk with hk
   have := low k e
   omega
 ·exact ((Fr.refl (fun k => B ≤ k ∧ ¬ X k) w).grown hg (fun k hk => .inl ⟨own_base ho k hk, hX k hk⟩)).setCell (p := ⟨b, 0, none⟩) (.inl ⟨ge, ne⟩) v1
theorem own_ne {T : TypeId} {B b : Nat} {w : World} {v : Value} {n : Nat} {xs : List Value} {cs : Array Value} {z : Nat × Nat} (hT : T ≠ 5) (hb : w.heap[b]? = some (.cells cs T z)) (ho : w.ownsRow B 5 1 v n xs) : ∀ k, v.ownBlock = some k → k ≠ b := fun k hk e => by
 obtain ⟨cells, hc⟩ := own_typed ho k hk
 rw [e, hb] at hc
 injection hc with hc
 injection hc with _ hc _
 exact hT hc
theorem JB.put_at {T : TypeId} {B b : Nat} {X : Nat → Prop} {ys : List Int} {w w1 : World} {v v1 : Value} {xs : List Int} (h : JB T B X b xs w) (hb : w.heap[b]? = some (.cells #[v] T (0, 0))) (ho : w.ownsRow B 5 1 v xs.length (nums .u8 xs)) (hX : ∀ k, v.ownBlock = some k → ¬ X k)
 (hg : w.grownBy w1 v.ownBlock) (h1 : w1.ownsRow B 5 1 v1 ys.length (nums .u8 ys)) (hat : v1.ownBlock = v.ownBlock ∨ ∃ b, v1.ownBlock = some b ∧ w.heap.size ≤ b) (hT : T ≠ 5 := by decide) : Wrote T B X b ys w (w1.setCell ⟨b, 0, none⟩ v1) :=
 JB.put hT hb ho hX h.ge h.ne h.low hg h1 hat
/-- Where append([]byte, string) leaves the row: where it was, or in a new block. -/
theorem str_hat {P : Program} (w : World) (base : Nat) (t u ty e : TypeId) (i : TypeInfo) (ht : P.underlying t = some (.slice e)) (hu : P.underlying u = some .string) (hi : P.info? e = some i) (hz : i.zero = some (.int .u8 0)) (hsize : i.size = 1) (hby : i.bytes = 1)
 (v : Value) (n : Nat) (xs : List Value) (hown : w.ownsRow base e 1 v n xs) (s : ByteArray) (hbytes : n + s.size ≤ 140737488355328) {v' : Value} {w' : World} (hr : (Builtin.append_ #[t, u] ty #[v, .string s]).run P w = .ok v' w') (hn : v = .slice none 0 0 → s.size = 0 → v' = .slice none 0 0) :
 v'.ownBlock = v.ownBlock ∨ ∃ b, v'.ownBlock = some b ∧ w.heap.size ≤ b := by
 have hxl : xs.length = n := by simpa using hown.1
 rcases hown.2 with ⟨rfl, rfl⟩ | ⟨g, cap, cur, rfl, hbg, hg, hnc, hcm, hcs, htake⟩
 ·by_cases hm : s.size = 0
  ·rw [hn rfl hm]; exact .inl rfl
  ·have h2 := run_append_nil_string (P := P) w t u ty e i (.int .u8 0) ht hu hi hz s (by omega) (by omega) (by rw [hby]; omega)
   rw [h2] at hr
   injection hr with hr _
   subst hr
   exact .inr ⟨w.heap.size, rfl, Nat.le_refl _⟩
 ·by_cases hroom : n + s.size ≤ cap
  ·have hcs' : cur.size = cap := by simpa using hcs
   have h2 := Lib.run_append_room_string (P := P) w t u ty e i ht hu hi hsize g n cap cur hg s hroom (by omega)
   rw [h2] at hr
   injection hr with hr _
   subst hr
   exact .inl rfl
  ·have holds : ∀ j u, xs[j]? = some u → w.cell? ((⟨g, 0, none⟩ : Addr).add j) = some u := hown.cells (g := g) rfl
   have h2 := Lib.run_append_grow_string (P := P) w t u ty e i (.int .u8 0) ht hu hi hz ⟨g, 0, none⟩ n cap xs (by rw [hsize]; simpa using hxl) holds s (by omega) (by omega) (by rw [hby]; exact growslice_fits (by omega) (by omega))
   rw [h2] at hr
   injection hr with hr _
   subst hr
   exact .inr ⟨w.heap.size, rfl, Nat.le_refl _⟩
/-- append([]byte, string), with a word on where the row lies. -/
theorem app_str {P : Program} {ops : Array Oper} {rest : List Oper} {o : Oper} {a : Act} {Q : Exit → Act → World → Prop} {W : World} (base : Nat) (hgd : o.guard = none) (s x : Operand) (t u : TypeId)
 (ho : o.op = .call { callee := .builtin .append, args := #[s, x], argTypes := #[t, u] }) (ht : P.underlying t = some (.slice 5)) (hu : P.underlying u = some .string) (hinfo : (P.info? 5).map (fun i => (i.zero, i.size, i.bytes)) = some (some (.int .u8 0), 1, 1))
 (v : Value) (xs : List Int) (y : ByteArray) (hs : a.eval s = v) (hx : a.eval x = .string y) (HO : W.ownsRow base 5 1 v xs.length (nums .u8 xs)) (hbase : base ≤ W.heap.size) (hl : xs.length + y.size ≤ 140737488355328)
 (h : ∀ v1 w1, w1.ownsRow base 5 1 v1 (xs ++ bytesOf y).length (nums .u8 (xs ++ bytesOf y)) → W.grownBy w1 v.ownBlock → (v1.ownBlock = v.ownBlock ∨ ∃ b, v1.ownBlock = some b ∧ W.heap.size ≤ b) → wpList P ops Q rest (a.put o.dst v1) w1) :
 wpList P ops Q (o :: rest) a W := by
 obtain ⟨i0, hi, hzz⟩ := Option.map_eq_some_iff.1 hinfo
 simp only [Prod.mk.injEq] at hzz
 obtain ⟨hz0, hz1, hz2⟩ := hzz
 obtain ⟨v', w', hr, h2, h3, h4⟩ := Lib.run_append_own_string (P := P) W base t u o.type 5 i0 ht hu hi hz0 hz1 hz2 v xs.length (nums .u8 xs) HO y (by simp only [maxLen]; omega) hl hbase
 have hat := str_hat (P := P) W base t u o.type 5 i0 ht hu hi hz0 hz1 hz2 v xs.length (nums .u8 xs) HO y hl hr (fun e1 e2 => h4.2 ⟨e1, e2⟩)
 refine wpList_plain hgd fun K hK => ?_
 unfold Oper.wp execOp
 simp only [ho, resolve, invoke, builtin, Sem.run_bind, Sem.run_pure, Result.andThen_ok, List.map_toArray, List.map_cons, List.map_nil, hs, hx, hr]
 have hl2 : (xs ++ bytesOf y).length = xs.length + y.size := by rw [List.length_append, bytesOf_length]
 have hc : nums .u8 (xs ++ bytesOf y) = nums .u8 xs ++ Lib.strCells y := by
  rw [nums_append]
  congr 1
  simp [nums, bytesOf, Lib.strCells]
 exact hK _ _ (h v' w' (by rw [hl2, hc]; exact h2) h3 hat)
end H
end Go.Proofs.YtkihaebaccdjdaaGreatDoor
