import Derived.Test.YtkihaebaccdjdaaGreatDoorProg
import Derived.Below
import Derived.Deep.Draws
import Derived.Deep.AppendLies
import Derived.Maps.AppendAt
import Derived.OwnWalk
import Derived.Laws.BytesArg
import Derived.Laws.MakeOwn
import Derived.Laws.OwnMore
import Derived.Deep.OwnRows
import Derived.Tactics
import Derived.Lib.ConvBytes
import Derived.Laws.Slices
import Derived.WalkKit
import Derived.KernelRfl
import Derived.RowKit3
import Derived.Deep.LoopGhost
import Derived.Deep.QuietTactic
import Derived.BigQuiet
import Derived.WideLaws
import Derived.Deep.DeepCutAuto
import Derived.Deep.CutBlock
import Derived.Deep.RegionHeld3
import Derived.Laws.Rows
import Derived.Lib.AppendStr
import Derived.ArgAppend
import Derived.Laws.IdiomCopy
import Derived.OrdersHeld
import Derived.Laws.BitsLemmas
import Derived.RowKit
import Derived.Test.YtkihaebaccdjdaaGreatDoorX0
import Derived.Test.YtkihaebaccdjdaaGreatDoorX1
import Derived.Test.YtkihaebaccdjdaaGreatDoorX2
import Derived.Test.YtkihaebaccdjdaaGreatDoorX3
import Derived.Test.YtkihaebaccdjdaaGreatDoorX4
namespace Go.Proofs.YtkihaebaccdjdaaGreatDoor.PX
open Go.RowKit Go.Proofs.YtkihaebaccdjdaaGreatDoorW.PrintWords Go.Proofs.YtkihaebaccdjdaaGreatDoorW.PrintLast Go.Proofs.YtkihaebaccdjdaaGreatDoorW.PrintMore
attribute [local go_sem] max2_int min2_int max_two min_two max_three min_three max_four min_four   -- for this text's walks alone
set_option linter.unusedVariables false
set_option linter.unusedSimpArgs false



def errW : Option Int → Value
 | none => .nilIface
 | some c => .iface 0 (.int .i64 c)
theorem info5 : (Tryz.prog.info? 5).map (fun i => (i.zero, i.size, i.bytes)) = some (some (.int .u8 0), 1, 1) := by kernel_rfl
theorem info9 : (Tryz.prog.info? 9).map (fun i => (i.zero, i.size, i.bytes)) = some (some (.string ⟨#[]⟩), 1, 16) := by kernel_rfl
theorem info45 : (Tryz.prog.info? 45).map (fun i => (i.zero, i.size, i.bytes)) = some (some (.agg #[(.string ⟨#[]⟩), (.string ⟨#[]⟩), (.bool false)]), 3, 40) := by kernel_rfl
theorem info172 : (Tryz.prog.info? 172).map (fun i => (i.zero, i.size, i.bytes)) = some (some (.agg #[(.string ⟨#[]⟩), (.string ⟨#[]⟩), (.string ⟨#[]⟩)]), 3, 48) := by kernel_rfl
/-! #### struct type 45 -/
structure S45 where
 f0 : ByteArray
 f1 : ByteArray
 f2 : Bool
def z45 : S45 := ⟨(⟨#[]⟩ : ByteArray), (⟨#[]⟩ : ByteArray), false⟩
def k45 : Kd S45 := Kd.iso (Kd.pair Kd.string (Kd.pair Kd.string Kd.bool)) (fun x : S45 => (x.f0, x.f1, x.f2))
theorem k45_open {w : World} {x : S45} {cs : List Value} (h : k45.K w x cs) : cs = [.string x.f0, .string x.f1, .bool x.f2] := by
 obtain ⟨_, _, rfl, rfl, ⟨_, _, rfl, rfl, rfl⟩⟩ := h
 exact rfl
theorem k45_mk (w : World) (x : S45)  : k45.K w x [.string x.f0, .string x.f1, .bool x.f2] := ⟨[.string x.f0], [.string x.f1, .bool x.f2], rfl, rfl, ⟨[.string x.f1], [.bool x.f2], rfl, rfl, rfl⟩⟩
theorem k45_mkM (w : World) (base : Nat) (ok : Nat → Prop) (x : S45)  : k45.M w base ok x [.string x.f0, .string x.f1, .bool x.f2] := ⟨[.string x.f0], [.string x.f1, .bool x.f2], rfl, rfl, ⟨[.string x.f1], [.bool x.f2], rfl, rfl, rfl⟩⟩
def rd_T45 (xs : List S45) (i : Int) : S45 := xs.getD i.toNat z45
theorem at_T45 {w : World} {A : Option Addr} {n : Nat} {xs : List S45} (h : Kd.C k45 w A n xs) (i : Int) (h0 : 0 ≤ i) (h1 : i < n) : ∃ ad , A = some ad ∧ w.cell? (ad.add (i.toNat * 3)) = some (.string (rd_T45 xs i).f0) ∧ w.cell? ⟨(ad.add (i.toNat * 3)).block, (ad.add (i.toNat * 3)).off + 1, none⟩ = some (.string (rd_T45 xs i).f1) ∧ w.cell? ⟨(ad.add (i.toNat * 3)).block, (ad.add (i.toNat * 3)).off + 2, none⟩ = some (.bool (rd_T45 xs i).f2) := by
 obtain ⟨ad, c, e, _, hK, hc0⟩ := Kd.C_get h z45 i h0 h1
 have hc : ∀ j u, c[j]? = some u → w.cell? (ad.add (i.toNat * 3 + j)) = some u := hc0
 obtain rfl := k45_open hK
 exact ⟨ad, e, hc 0 _ rfl, by rw [← add_field _ _ 1 (by omega)]; exact hc 1 _ rfl, by rw [← add_field _ _ 2 (by omega)]; exact hc 2 _ rfl⟩

/-! #### struct type 28, nested in itself -/
structure S28 where
 f0 : Int
 f1 : ByteArray
 f2 : Int
 f3 : (List ByteArray)
 f4 : (List S28)
 f5 : (List Bool)
 f6 : ByteArray
 f7 : ByteArray
 f8 : ByteArray
 f9 : (List S45)
def z28 : S28 := ⟨(0 : Int), (⟨#[]⟩ : ByteArray), (0 : Int), ([] : List ByteArray), ([] : List S28), ([] : List Bool), (⟨#[]⟩ : ByteArray), (⟨#[]⟩ : ByteArray), (⟨#[]⟩ : ByteArray), ([] : List S45)⟩
def F28 (d : Kd S28) : Kd S28 := Kd.iso (Kd.pair (Kd.int .i64) (Kd.pair Kd.string (Kd.pair (Kd.int .i64) (Kd.pair (Kd.slice 9 Kd.string) (Kd.pair (Kd.slice 28 d) (Kd.pair (Kd.slice 4 Kd.bool) (Kd.pair Kd.string (Kd.pair Kd.string (Kd.pair Kd.string (Kd.slice 45 k45)))))))))) (fun x : S28 => (x.f0, x.f1, x.f2, x.f3, x.f4, x.f5, x.f6, x.f7, x.f8, x.f9))
theorem sub28 : Kd.Sub F28 [4, 9, 28, 45] := Kd.sub_iso _ (Kd.sub_pair (Kd.sub_const _ (by decide)) (Kd.sub_pair (Kd.sub_const _ (by decide)) (Kd.sub_pair (Kd.sub_const _ (by decide)) (Kd.sub_pair (Kd.sub_const _ (by decide)) (Kd.sub_pair (Kd.sub_slice 28 (by decide) Kd.sub_id) (Kd.sub_pair (Kd.sub_const _ (by decide)) (Kd.sub_pair (Kd.sub_const _ (by decide)) (Kd.sub_pair (Kd.sub_const _ (by decide)) (Kd.sub_pair (Kd.sub_const _ (by decide)) (Kd.sub_const _ (by decide)))))))))))
theorem sz28 : ∀ n, (Kd.upto F28 10 [4, 9, 28, 45] n).sz = 10 := Kd.upto_sz (fun _ => rfl)
def k28 : Kd S28 := Kd.fix F28 10 [4, 9, 28, 45] sz28 (Kd.upto_E sub28)
theorem k28_open {w : World} {x : S28} {cs : List Value} (h : k28.K w x cs) : ∃ A3 c3 A4 c4 A5 c5 A9 c9, cs = [.int .i64 x.f0, .string x.f1, .int .i64 x.f2, .slice A3 x.f3.length c3, .slice A4 x.f4.length c4, .slice A5 x.f5.length c5, .string x.f6, .string x.f7, .string x.f8, .slice A9 x.f9.length c9] ∧ x.f3.length ≤ c3 ∧ Kd.string.C w A3 x.f3.length x.f3 ∧ x.f4.length ≤ c4 ∧ k28.C w A4 x.f4.length x.f4 ∧ x.f5.length ≤ c5 ∧ Kd.bool.C w A5 x.f5.length x.f5 ∧ x.f9.length ≤ c9 ∧ k45.C w A9 x.f9.length x.f9 := by
 obtain ⟨n, h⟩ := h
 cases n with
 | zero => exact h.elim
 | succ n =>
   obtain ⟨_, _, rfl, rfl, ⟨_, _, rfl, rfl, ⟨_, _, rfl, rfl, ⟨_, _, rfl, ⟨A3, c3, rfl, l3, g3⟩, ⟨_, _, rfl, ⟨A4, c4, rfl, l4, g4⟩, ⟨_, _, rfl, ⟨A5, c5, rfl, l5, g5⟩, ⟨_, _, rfl, rfl, ⟨_, _, rfl, rfl, ⟨_, _, rfl, rfl, ⟨A9, c9, rfl, l9, g9⟩⟩⟩⟩⟩⟩⟩⟩⟩⟩ := h
   exact ⟨A3, c3, A4, c4, A5, c5, A9, c9, rfl, l3, g3, l4, Kd.fix_C g4, l5, g5, l9, g9⟩
def rd_T28 (xs : List S28) (i : Int) : S28 := xs.getD i.toNat z28
theorem at_T28 {w : World} {A : Option Addr} {n : Nat} {xs : List S28} (h : Kd.C k28 w A n xs) (i : Int) (h0 : 0 ≤ i) (h1 : i < n) : ∃ ad A3 c3 A4 c4 A5 c5 A9 c9, A = some ad ∧ w.cell? (ad.add (i.toNat * 10)) = some (.int .i64 (rd_T28 xs i).f0) ∧ w.cell? ⟨(ad.add (i.toNat * 10)).block, (ad.add (i.toNat * 10)).off + 1, none⟩ = some (.string (rd_T28 xs i).f1) ∧ w.cell? ⟨(ad.add (i.toNat * 10)).block, (ad.add (i.toNat * 10)).off + 2, none⟩ = some (.int .i64 (rd_T28 xs i).f2) ∧ w.cell? ⟨(ad.add (i.toNat * 10)).block, (ad.add (i.toNat * 10)).off + 3, none⟩ = some (.slice A3 (rd_T28 xs i).f3.length c3) ∧ w.cell? ⟨(ad.add (i.toNat * 10)).block, (ad.add (i.toNat * 10)).off + 4, none⟩ = some (.slice A4 (rd_T28 xs i).f4.length c4) ∧ w.cell? ⟨(ad.add (i.toNat * 10)).block, (ad.add (i.toNat * 10)).off + 5, none⟩ = some (.slice A5 (rd_T28 xs i).f5.length c5) ∧ w.cell? ⟨(ad.add (i.toNat * 10)).block, (ad.add (i.toNat * 10)).off + 6, none⟩ = some (.string (rd_T28 xs i).f6) ∧ w.cell? ⟨(ad.add (i.toNat * 10)).block, (ad.add (i.toNat * 10)).off + 7, none⟩ = some (.string (rd_T28 xs i).f7) ∧ w.cell? ⟨(ad.add (i.toNat * 10)).block, (ad.add (i.toNat * 10)).off + 8, none⟩ = some (.string (rd_T28 xs i).f8) ∧ w.cell? ⟨(ad.add (i.toNat * 10)).block, (ad.add (i.toNat * 10)).off + 9, none⟩ = some (.slice A9 (rd_T28 xs i).f9.length c9) ∧ (rd_T28 xs i).f3.length ≤ c3 ∧ Kd.string.C w A3 (rd_T28 xs i).f3.length (rd_T28 xs i).f3 ∧ (rd_T28 xs i).f4.length ≤ c4 ∧ k28.C w A4 (rd_T28 xs i).f4.length (rd_T28 xs i).f4 ∧ (rd_T28 xs i).f5.length ≤ c5 ∧ Kd.bool.C w A5 (rd_T28 xs i).f5.length (rd_T28 xs i).f5 ∧ (rd_T28 xs i).f9.length ≤ c9 ∧ k45.C w A9 (rd_T28 xs i).f9.length (rd_T28 xs i).f9 := by
 obtain ⟨ad, c, e, _, hK, hc0⟩ := Kd.C_get h z28 i h0 h1
 have hc : ∀ j u, c[j]? = some u → w.cell? (ad.add (i.toNat * 10 + j)) = some u := hc0
 obtain ⟨A3, c3, A4, c4, A5, c5, A9, c9, rfl, l3, g3, l4, g4, l5, g5, l9, g9⟩ := k28_open hK
 exact ⟨ad, A3, c3, A4, c4, A5, c5, A9, c9, e, hc 0 _ rfl, by rw [← add_field _ _ 1 (by omega)]; exact hc 1 _ rfl, by rw [← add_field _ _ 2 (by omega)]; exact hc 2 _ rfl, by rw [← add_field _ _ 3 (by omega)]; exact hc 3 _ rfl, by rw [← add_field _ _ 4 (by omega)]; exact hc 4 _ rfl, by rw [← add_field _ _ 5 (by omega)]; exact hc 5 _ rfl, by rw [← add_field _ _ 6 (by omega)]; exact hc 6 _ rfl, by rw [← add_field _ _ 7 (by omega)]; exact hc 7 _ rfl, by rw [← add_field _ _ 8 (by omega)]; exact hc 8 _ rfl, by rw [← add_field _ _ 9 (by omega)]; exact hc 9 _ rfl, l3, g3, l4, g4, l5, g5, l9, g9⟩

/-! #### struct type 102 -/
structure S102 where
 f0 : ByteArray
 f1 : ByteArray
def z102 : S102 := ⟨(⟨#[]⟩ : ByteArray), (⟨#[]⟩ : ByteArray)⟩
def k102 : Kd S102 := Kd.iso (Kd.pair Kd.string Kd.string) (fun x : S102 => (x.f0, x.f1))
theorem k102_open {w : World} {x : S102} {cs : List Value} (h : k102.K w x cs) : cs = [.string x.f0, .string x.f1] := by
 obtain ⟨_, _, rfl, rfl, rfl⟩ := h
 exact rfl
theorem k102_mkM (w : World) (base : Nat) (ok : Nat → Prop) (x : S102)  : k102.M w base ok x [.string x.f0, .string x.f1] := ⟨[.string x.f0], [.string x.f1], rfl, rfl, rfl⟩
/-! #### struct type 172 -/
structure S172 where
 f0 : S102
 f1 : ByteArray
def z172 : S172 := ⟨z102, (⟨#[]⟩ : ByteArray)⟩
def k172 : Kd S172 := Kd.iso (Kd.pair k102 Kd.string) (fun x : S172 => (x.f0, x.f1))
theorem k172_open {w : World} {x : S172} {cs : List Value} (h : k172.K w x cs) : cs = [.string x.f0.f0, .string x.f0.f1, .string x.f1] := by
 obtain ⟨_, _, rfl, s0, rfl⟩ := h
 obtain rfl := k102_open s0
 exact rfl
theorem k172_mkM (w : World) (base : Nat) (ok : Nat → Prop) (x : S172)  : k172.M w base ok x [.string x.f0.f0, .string x.f0.f1, .string x.f1] := ⟨[.string x.f0.f0, .string x.f0.f1], [.string x.f1], rfl, (k102_mkM w base ok x.f0 ), rfl⟩
def rd_T172 (xs : List S172) (i : Int) : S172 := xs.getD i.toNat z172
theorem at_T172 {w : World} {A : Option Addr} {n : Nat} {xs : List S172} (h : Kd.C k172 w A n xs) (i : Int) (h0 : 0 ≤ i) (h1 : i < n) : ∃ ad , A = some ad ∧ w.cell? (ad.add (i.toNat * 3)) = some (.string (rd_T172 xs i).f0.f0) ∧ w.cell? ⟨(ad.add (i.toNat * 3)).block, (ad.add (i.toNat * 3)).off + 1, none⟩ = some (.string (rd_T172 xs i).f0.f1) ∧ w.cell? ⟨(ad.add (i.toNat * 3)).block, (ad.add (i.toNat * 3)).off + 2, none⟩ = some (.string (rd_T172 xs i).f1) := by
 obtain ⟨ad, c, e, _, hK, hc0⟩ := Kd.C_get h z172 i h0 h1
 have hc : ∀ j u, c[j]? = some u → w.cell? (ad.add (i.toNat * 3 + j)) = some u := hc0
 obtain rfl := k172_open hK
 exact ⟨ad, e, hc 0 _ rfl, by rw [← add_field _ _ 1 (by omega)]; exact hc 1 _ rfl, by rw [← add_field _ _ 2 (by omega)]; exact hc 2 _ rfl⟩

end Go.Proofs.YtkihaebaccdjdaaGreatDoor.PX
