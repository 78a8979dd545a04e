-- printed by this session's own program over the kit's print.py; Lean checks it
import Derived.Test.YtclmjmfcggkpaaaGreatDoorProg
import Derived.Below
import Derived.Deep.Draws
import Derived.Deep.AppendLies
import Derived.Maps.AppendAt
import Derived.OwnWalk
import Derived.Laws.BytesArg
import Derived.Laws.MakeOwn
import Derived.Laws.OwnMore
import Derived.Deep.OwnRows
import Derived.Tactics
import Derived.Lib.ConvBytes
import Derived.Laws.Slices
import Derived.WalkKit
import Derived.KernelRfl
import Derived.RowKit3
import Derived.Deep.LoopGhost
import Derived.Deep.QuietTactic
import Derived.BigQuiet
import Derived.WideLaws
import Derived.Deep.DeepCutAuto
import Derived.Deep.CutBlock
import Derived.Deep.RegionHeld3
import Derived.Laws.Rows
import Derived.Lib.AppendStr
import Derived.ArgAppend
import Derived.Laws.IdiomCopy
import Derived.OrdersHeld
import Derived.Laws.BitsLemmas
import Derived.RowKit
import Derived.Test.YtclmjmfcggkpaaaGreatDoorWWords
import Derived.Test.YtclmjmfcggkpaaaGreatDoorWLast
import Derived.Test.YtclmjmfcggkpaaaGreatDoorWTab
import Derived.Test.YtclmjmfcggkpaaaGreatDoorWFour
import Derived.Test.YtclmjmfcggkpaaaGreatDoorWQPut
import Derived.Test.YtclmjmfcggkpaaaGreatDoorWApart
import Derived.Test.YtclmjmfcggkpaaaGreatDoorWArr
import Derived.Test.YtclmjmfcggkpaaaGreatDoorWZeros
import Derived.Test.YtclmjmfcggkpaaaGreatDoorWFoot
import Derived.Test.YtclmjmfcggkpaaaGreatDoorWKept
import Derived.Test.YtclmjmfcggkpaaaGreatDoorWShare
import Derived.Test.YtclmjmfcggkpaaaGreatDoorWN
import Derived.Test.YtclmjmfcggkpaaaGreatDoorWFootNe
import Derived.Test.YtclmjmfcggkpaaaGreatDoorWAt
import Derived.Test.YtclmjmfcggkpaaaGreatDoorWEqStruct
import Derived.Test.YtclmjmfcggkpaaaGreatDoorWRepsOne
import Derived.Test.YtclmjmfcggkpaaaGreatDoorWInv
import Derived.Test.YtclmjmfcggkpaaaGreatDoorWInvWords
import Derived.Test.YtclmjmfcggkpaaaGreatDoorWGuard
import Derived.Test.YtclmjmfcggkpaaaGreatDoorWNEv
import Derived.Test.YtclmjmfcggkpaaaGreatDoorWMore
namespace Go.Proofs.YtclmjmfcggkpaaaGreatDoor.PX
open Go.RowKit Go.Proofs.YtclmjmfcggkpaaaGreatDoorW.PrintWords Go.Proofs.YtclmjmfcggkpaaaGreatDoorW.PrintLast Go.Proofs.YtclmjmfcggkpaaaGreatDoorW.PrintMore
attribute [local go_sem] max2_int min2_int max_two min_two max_three min_three max_four min_four   -- for this text's walks alone
set_option linter.unusedVariables false
set_option linter.unusedSimpArgs false



def errW : Option Int → Value
  | none => .nilIface
  | some c => .iface 192 (.int .i64 c)
theorem errW_none : errW none = .nilIface := rfl
theorem errW_some (c : Int) : errW (some c) = .iface 192 (.int .i64 c) := rfl

theorem info5 : (Tryz.prog.info? 5).map (fun i => (i.zero, i.size, i.bytes)) = some (some (.int .u8 0), 1, 1) := by kernel_rfl
theorem info9 : (Tryz.prog.info? 9).map (fun i => (i.zero, i.size, i.bytes)) = some (some (.string ⟨#[]⟩), 1, 16) := by kernel_rfl
theorem info48 : (Tryz.prog.info? 48).map (fun i => (i.zero, i.size, i.bytes)) = some (some (.agg #[(.int .i64 0), (.string ⟨#[]⟩), (.string ⟨#[]⟩), (.int .i64 0), (.string ⟨#[]⟩), (.int .i64 0)]), 6, 72) := by kernel_rfl
theorem info65 : (Tryz.prog.info? 65).map (fun i => (i.zero, i.size, i.bytes)) = some (some (.agg #[(.string ⟨#[]⟩), (.string ⟨#[]⟩), (.bool false)]), 3, 40) := by kernel_rfl
-- the values' own types
def rd_L1 (xs : List (List ByteArray)) (i : Int) : (List ByteArray) := xs.getD i.toNat ([] : List ByteArray)
theorem at_L1 {w : World} {A : Option Addr} {n : Nat} {xs : List (List ByteArray)} (h : Kd.C (Kd.slice 9 Kd.string) w A n xs) (i : Int) (h0 : 0 ≤ i) (h1 : i < n) : ∃ ad A0 c0, A = some ad ∧ w.cell? (ad.add i.toNat) = some (.slice A0 (rd_L1 xs i).length c0) ∧ (rd_L1 xs i).length ≤ c0 ∧ Kd.string.C w A0 (rd_L1 xs i).length (rd_L1 xs i) := by
  obtain ⟨ad, c, e, _, hK, hc0⟩ := Kd.C_get h ([] : List ByteArray) i h0 h1
  have hc : ∀ j u, c[j]? = some u → w.cell? (ad.add (i.toNat * 1 + j)) = some u := hc0
  obtain ⟨A0, c0, rfl, l0, g0⟩ := hK
  exact ⟨ad, A0, c0, e, by have hq := hc 0 _ rfl; rwa [Nat.mul_one, Nat.add_zero] at hq, l0, g0⟩

/-! #### struct type 73 -/
structure S73 where
  f0 : ByteArray
  f1 : (List ByteArray)
def z73 : S73 := ⟨(⟨#[]⟩ : ByteArray), ([] : List ByteArray)⟩
def k73 : Kd S73 := Kd.iso (Kd.pair Kd.string (Kd.slice 9 Kd.string)) (fun x : S73 => (x.f0, x.f1))
theorem k73_open {w : World} {x : S73} {cs : List Value} (h : k73.K w x cs) : ∃ A1 c1, cs = [.string x.f0, .slice A1 x.f1.length c1] ∧ x.f1.length ≤ c1 ∧ Kd.string.C w A1 x.f1.length x.f1 := by
  obtain ⟨_, _, rfl, rfl, ⟨A1, c1, rfl, l1, g1⟩⟩ := h
  exact ⟨A1, c1, rfl, l1, g1⟩
theorem k73_openM {w : World} {base : Nat} {ok : Nat → Prop} {x : S73} {cs : List Value} (h : k73.M w base ok x cs) : ∃ v1, cs = [.string x.f0, v1] ∧ Kd.string.R 9 w base ok v1 x.f1 := by
  obtain ⟨_, _, rfl, rfl, ⟨v1, rfl, g1⟩⟩ := h
  exact ⟨v1, rfl, g1⟩
theorem k73_mk (w : World) (x : S73) {A1 : Option Addr} {c1 : Nat} (l1 : x.f1.length ≤ c1) (g1 : Kd.string.C w A1 x.f1.length x.f1) : k73.K w x [.string x.f0, .slice A1 x.f1.length c1] := ⟨[.string x.f0], [.slice A1 x.f1.length c1], rfl, rfl, ⟨A1, c1, rfl, l1, g1⟩⟩
theorem k73_mkM (w : World) (base : Nat) (ok : Nat → Prop) (x : S73) {v1 : Value} (g1 : Kd.string.R 9 w base ok v1 x.f1) : k73.M w base ok x [.string x.f0, v1] := ⟨[.string x.f0], [v1], rfl, rfl, ⟨v1, rfl, g1⟩⟩
theorem k73_openF {W : World} {ok : Nat → Prop} {x : S73} {cs : List Value} (h : Kd.FK k73 W ok x cs) : ∃ A1 c1, cs = [.string x.f0, .slice A1 x.f1.length c1] ∧ x.f1.length ≤ c1 ∧ Kd.F Kd.string W ok A1 x.f1.length x.f1 := by
  obtain ⟨A1, c1, rfl, l1, _⟩ := k73_open (Kd.FK_now h)
  exact ⟨A1, c1, rfl, l1, (fun W' hW => by obtain ⟨A1_, c1_, he, l1_, g1_⟩ := k73_open (h W' hW); injection (Option.some.inj (show some (Value.slice A1 x.f1.length c1) = some (Value.slice A1_ x.f1.length c1_) from congrArg (fun l => l[1]?) he)) with ha_ _ _; rw [ha_]; exact g1_)⟩
theorem k73_mkF (W : World) (ok : Nat → Prop) (x : S73) {A1 : Option Addr} {c1 : Nat} (l1 : x.f1.length ≤ c1) (g1 : Kd.F Kd.string W ok A1 x.f1.length x.f1) : Kd.FK k73 W ok x [.string x.f0, .slice A1 x.f1.length c1] := fun W2 hW => k73_mk W2 x l1 (g1 W2 hW)
def rd_T73 (xs : List S73) (i : Int) : S73 := xs.getD i.toNat z73
theorem at_T73 {w : World} {A : Option Addr} {n : Nat} {xs : List S73} (h : Kd.C k73 w A n xs) (i : Int) (h0 : 0 ≤ i) (h1 : i < n) : ∃ ad A1 c1, A = some ad ∧ w.cell? (ad.add (i.toNat * 2)) = some (.string (rd_T73 xs i).f0) ∧ w.cell? ⟨(ad.add (i.toNat * 2)).block, (ad.add (i.toNat * 2)).off + 1, none⟩ = some (.slice A1 (rd_T73 xs i).f1.length c1) ∧ (rd_T73 xs i).f1.length ≤ c1 ∧ Kd.string.C w A1 (rd_T73 xs i).f1.length (rd_T73 xs i).f1 := by
  obtain ⟨ad, c, e, _, hK, hc0⟩ := Kd.C_get h z73 i h0 h1
  have hc : ∀ j u, c[j]? = some u → w.cell? (ad.add (i.toNat * 2 + j)) = some u := hc0
  obtain ⟨A1, c1, rfl, l1, g1⟩ := k73_open hK
  exact ⟨ad, A1, c1, e, hc 0 _ rfl, by rw [← add_field _ _ 1 (by omega)]; exact hc 1 _ rfl, l1, g1⟩

/-! #### struct type 48 -/
structure S48 where
  f0 : Int
  f1 : ByteArray
  f2 : ByteArray
  f3 : Int
  f4 : ByteArray
  f5 : Int
def z48 : S48 := ⟨(0 : Int), (⟨#[]⟩ : ByteArray), (⟨#[]⟩ : ByteArray), (0 : Int), (⟨#[]⟩ : ByteArray), (0 : Int)⟩
def k48 : Kd S48 := Kd.iso (Kd.pair (Kd.int .i64) (Kd.pair Kd.string (Kd.pair Kd.string (Kd.pair (Kd.int .i64) (Kd.pair Kd.string (Kd.int .i64)))))) (fun x : S48 => (x.f0, x.f1, x.f2, x.f3, x.f4, x.f5))
theorem k48_open {w : World} {x : S48} {cs : List Value} (h : k48.K w x cs) : cs = [.int .i64 x.f0, .string x.f1, .string x.f2, .int .i64 x.f3, .string x.f4, .int .i64 x.f5] := by
  obtain ⟨_, _, rfl, rfl, ⟨_, _, rfl, rfl, ⟨_, _, rfl, rfl, ⟨_, _, rfl, rfl, ⟨_, _, rfl, rfl, rfl⟩⟩⟩⟩⟩ := h
  exact rfl
theorem k48_openM {w : World} {base : Nat} {ok : Nat → Prop} {x : S48} {cs : List Value} (h : k48.M w base ok x cs) : cs = [.int .i64 x.f0, .string x.f1, .string x.f2, .int .i64 x.f3, .string x.f4, .int .i64 x.f5] := by
  obtain ⟨_, _, rfl, rfl, ⟨_, _, rfl, rfl, ⟨_, _, rfl, rfl, ⟨_, _, rfl, rfl, ⟨_, _, rfl, rfl, rfl⟩⟩⟩⟩⟩ := h
  exact rfl
theorem k48_mk (w : World) (x : S48)  : k48.K w x [.int .i64 x.f0, .string x.f1, .string x.f2, .int .i64 x.f3, .string x.f4, .int .i64 x.f5] := ⟨[.int .i64 x.f0], [.string x.f1, .string x.f2, .int .i64 x.f3, .string x.f4, .int .i64 x.f5], rfl, rfl, ⟨[.string x.f1], [.string x.f2, .int .i64 x.f3, .string x.f4, .int .i64 x.f5], rfl, rfl, ⟨[.string x.f2], [.int .i64 x.f3, .string x.f4, .int .i64 x.f5], rfl, rfl, ⟨[.int .i64 x.f3], [.string x.f4, .int .i64 x.f5], rfl, rfl, ⟨[.string x.f4], [.int .i64 x.f5], rfl, rfl, rfl⟩⟩⟩⟩⟩
theorem k48_mkM (w : World) (base : Nat) (ok : Nat → Prop) (x : S48)  : k48.M w base ok x [.int .i64 x.f0, .string x.f1, .string x.f2, .int .i64 x.f3, .string x.f4, .int .i64 x.f5] := ⟨[.int .i64 x.f0], [.string x.f1, .string x.f2, .int .i64 x.f3, .string x.f4, .int .i64 x.f5], rfl, rfl, ⟨[.string x.f1], [.string x.f2, .int .i64 x.f3, .string x.f4, .int .i64 x.f5], rfl, rfl, ⟨[.string x.f2], [.int .i64 x.f3, .string x.f4, .int .i64 x.f5], rfl, rfl, ⟨[.int .i64 x.f3], [.string x.f4, .int .i64 x.f5], rfl, rfl, ⟨[.string x.f4], [.int .i64 x.f5], rfl, rfl, rfl⟩⟩⟩⟩⟩
theorem k48_mkF (W : World) (ok : Nat → Prop) (x : S48) : Kd.FK k48 W ok x [.int .i64 x.f0, .string x.f1, .string x.f2, .int .i64 x.f3, .string x.f4, .int .i64 x.f5] := fun W2 _ => k48_mk W2 x
def rd_T48 (xs : List S48) (i : Int) : S48 := xs.getD i.toNat z48
theorem at_T48 {w : World} {A : Option Addr} {n : Nat} {xs : List S48} (h : Kd.C k48 w A n xs) (i : Int) (h0 : 0 ≤ i) (h1 : i < n) : ∃ ad , A = some ad ∧ w.cell? (ad.add (i.toNat * 6)) = some (.int .i64 (rd_T48 xs i).f0) ∧ w.cell? ⟨(ad.add (i.toNat * 6)).block, (ad.add (i.toNat * 6)).off + 1, none⟩ = some (.string (rd_T48 xs i).f1) ∧ w.cell? ⟨(ad.add (i.toNat * 6)).block, (ad.add (i.toNat * 6)).off + 2, none⟩ = some (.string (rd_T48 xs i).f2) ∧ w.cell? ⟨(ad.add (i.toNat * 6)).block, (ad.add (i.toNat * 6)).off + 3, none⟩ = some (.int .i64 (rd_T48 xs i).f3) ∧ w.cell? ⟨(ad.add (i.toNat * 6)).block, (ad.add (i.toNat * 6)).off + 4, none⟩ = some (.string (rd_T48 xs i).f4) ∧ w.cell? ⟨(ad.add (i.toNat * 6)).block, (ad.add (i.toNat * 6)).off + 5, none⟩ = some (.int .i64 (rd_T48 xs i).f5) := by
  obtain ⟨ad, c, e, _, hK, hc0⟩ := Kd.C_get h z48 i h0 h1
  have hc : ∀ j u, c[j]? = some u → w.cell? (ad.add (i.toNat * 6 + j)) = some u := hc0
  obtain rfl := k48_open hK
  exact ⟨ad, e, hc 0 _ rfl, by rw [← add_field _ _ 1 (by omega)]; exact hc 1 _ rfl, by rw [← add_field _ _ 2 (by omega)]; exact hc 2 _ rfl, by rw [← add_field _ _ 3 (by omega)]; exact hc 3 _ rfl, by rw [← add_field _ _ 4 (by omega)]; exact hc 4 _ rfl, by rw [← add_field _ _ 5 (by omega)]; exact hc 5 _ rfl⟩

/-! #### struct type 241 -/
structure S241 where
  f0 : Int
  f1 : Int
  f2 : Int
def z241 : S241 := ⟨(0 : Int), (0 : Int), (0 : Int)⟩
def k241 : Kd S241 := Kd.iso (Kd.pair (Kd.int .u16) (Kd.pair (Kd.int .u16) (Kd.int .u16))) (fun x : S241 => (x.f0, x.f1, x.f2))
theorem k241_open {w : World} {x : S241} {cs : List Value} (h : k241.K w x cs) : cs = [.int .u16 x.f0, .int .u16 x.f1, .int .u16 x.f2] := by
  obtain ⟨_, _, rfl, rfl, ⟨_, _, rfl, rfl, rfl⟩⟩ := h
  exact rfl
theorem k241_openM {w : World} {base : Nat} {ok : Nat → Prop} {x : S241} {cs : List Value} (h : k241.M w base ok x cs) : cs = [.int .u16 x.f0, .int .u16 x.f1, .int .u16 x.f2] := by
  obtain ⟨_, _, rfl, rfl, ⟨_, _, rfl, rfl, rfl⟩⟩ := h
  exact rfl
theorem k241_mk (w : World) (x : S241)  : k241.K w x [.int .u16 x.f0, .int .u16 x.f1, .int .u16 x.f2] := ⟨[.int .u16 x.f0], [.int .u16 x.f1, .int .u16 x.f2], rfl, rfl, ⟨[.int .u16 x.f1], [.int .u16 x.f2], rfl, rfl, rfl⟩⟩
theorem k241_mkM (w : World) (base : Nat) (ok : Nat → Prop) (x : S241)  : k241.M w base ok x [.int .u16 x.f0, .int .u16 x.f1, .int .u16 x.f2] := ⟨[.int .u16 x.f0], [.int .u16 x.f1, .int .u16 x.f2], rfl, rfl, ⟨[.int .u16 x.f1], [.int .u16 x.f2], rfl, rfl, rfl⟩⟩
theorem k241_mkF (W : World) (ok : Nat → Prop) (x : S241) : Kd.FK k241 W ok x [.int .u16 x.f0, .int .u16 x.f1, .int .u16 x.f2] := fun W2 _ => k241_mk W2 x
def rd_T241 (xs : List S241) (i : Int) : S241 := xs.getD i.toNat z241
theorem at_T241 {w : World} {A : Option Addr} {n : Nat} {xs : List S241} (h : Kd.C k241 w A n xs) (i : Int) (h0 : 0 ≤ i) (h1 : i < n) : ∃ ad , A = some ad ∧ w.cell? (ad.add (i.toNat * 3)) = some (.int .u16 (rd_T241 xs i).f0) ∧ w.cell? ⟨(ad.add (i.toNat * 3)).block, (ad.add (i.toNat * 3)).off + 1, none⟩ = some (.int .u16 (rd_T241 xs i).f1) ∧ w.cell? ⟨(ad.add (i.toNat * 3)).block, (ad.add (i.toNat * 3)).off + 2, none⟩ = some (.int .u16 (rd_T241 xs i).f2) := by
  obtain ⟨ad, c, e, _, hK, hc0⟩ := Kd.C_get h z241 i h0 h1
  have hc : ∀ j u, c[j]? = some u → w.cell? (ad.add (i.toNat * 3 + j)) = some u := hc0
  obtain rfl := k241_open hK
  exact ⟨ad, e, hc 0 _ rfl, by rw [← add_field _ _ 1 (by omega)]; exact hc 1 _ rfl, by rw [← add_field _ _ 2 (by omega)]; exact hc 2 _ rfl⟩

/-! #### struct type 244 -/
structure S244 where
  f0 : Int
  f1 : Int
  f2 : Int
def z244 : S244 := ⟨(0 : Int), (0 : Int), (0 : Int)⟩
def k244 : Kd S244 := Kd.iso (Kd.pair (Kd.int .u32) (Kd.pair (Kd.int .u32) (Kd.int .u32))) (fun x : S244 => (x.f0, x.f1, x.f2))
theorem k244_open {w : World} {x : S244} {cs : List Value} (h : k244.K w x cs) : cs = [.int .u32 x.f0, .int .u32 x.f1, .int .u32 x.f2] := by
  obtain ⟨_, _, rfl, rfl, ⟨_, _, rfl, rfl, rfl⟩⟩ := h
  exact rfl
theorem k244_openM {w : World} {base : Nat} {ok : Nat → Prop} {x : S244} {cs : List Value} (h : k244.M w base ok x cs) : cs = [.int .u32 x.f0, .int .u32 x.f1, .int .u32 x.f2] := by
  obtain ⟨_, _, rfl, rfl, ⟨_, _, rfl, rfl, rfl⟩⟩ := h
  exact rfl
theorem k244_mk (w : World) (x : S244)  : k244.K w x [.int .u32 x.f0, .int .u32 x.f1, .int .u32 x.f2] := ⟨[.int .u32 x.f0], [.int .u32 x.f1, .int .u32 x.f2], rfl, rfl, ⟨[.int .u32 x.f1], [.int .u32 x.f2], rfl, rfl, rfl⟩⟩
theorem k244_mkM (w : World) (base : Nat) (ok : Nat → Prop) (x : S244)  : k244.M w base ok x [.int .u32 x.f0, .int .u32 x.f1, .int .u32 x.f2] := ⟨[.int .u32 x.f0], [.int .u32 x.f1, .int .u32 x.f2], rfl, rfl, ⟨[.int .u32 x.f1], [.int .u32 x.f2], rfl, rfl, rfl⟩⟩
theorem k244_mkF (W : World) (ok : Nat → Prop) (x : S244) : Kd.FK k244 W ok x [.int .u32 x.f0, .int .u32 x.f1, .int .u32 x.f2] := fun W2 _ => k244_mk W2 x
def rd_T244 (xs : List S244) (i : Int) : S244 := xs.getD i.toNat z244
theorem at_T244 {w : World} {A : Option Addr} {n : Nat} {xs : List S244} (h : Kd.C k244 w A n xs) (i : Int) (h0 : 0 ≤ i) (h1 : i < n) : ∃ ad , A = some ad ∧ w.cell? (ad.add (i.toNat * 3)) = some (.int .u32 (rd_T244 xs i).f0) ∧ w.cell? ⟨(ad.add (i.toNat * 3)).block, (ad.add (i.toNat * 3)).off + 1, none⟩ = some (.int .u32 (rd_T244 xs i).f1) ∧ w.cell? ⟨(ad.add (i.toNat * 3)).block, (ad.add (i.toNat * 3)).off + 2, none⟩ = some (.int .u32 (rd_T244 xs i).f2) := by
  obtain ⟨ad, c, e, _, hK, hc0⟩ := Kd.C_get h z244 i h0 h1
  have hc : ∀ j u, c[j]? = some u → w.cell? (ad.add (i.toNat * 3 + j)) = some u := hc0
  obtain rfl := k244_open hK
  exact ⟨ad, e, hc 0 _ rfl, by rw [← add_field _ _ 1 (by omega)]; exact hc 1 _ rfl, by rw [← add_field _ _ 2 (by omega)]; exact hc 2 _ rfl⟩

def rd_L10 (xs : List (List S73)) (i : Int) : (List S73) := xs.getD i.toNat ([] : List S73)
theorem at_L10 {w : World} {A : Option Addr} {n : Nat} {xs : List (List S73)} (h : Kd.C (Kd.slice 73 k73) w A n xs) (i : Int) (h0 : 0 ≤ i) (h1 : i < n) : ∃ ad A0 c0, A = some ad ∧ w.cell? (ad.add i.toNat) = some (.slice A0 (rd_L10 xs i).length c0) ∧ (rd_L10 xs i).length ≤ c0 ∧ k73.C w A0 (rd_L10 xs i).length (rd_L10 xs i) := by
  obtain ⟨ad, c, e, _, hK, hc0⟩ := Kd.C_get h ([] : List S73) i h0 h1
  have hc : ∀ j u, c[j]? = some u → w.cell? (ad.add (i.toNat * 1 + j)) = some u := hc0
  obtain ⟨A0, c0, rfl, l0, g0⟩ := hK
  exact ⟨ad, A0, c0, e, by have hq := hc 0 _ rfl; rwa [Nat.mul_one, Nat.add_zero] at hq, l0, g0⟩

def rd_L11 (xs : List (List S48)) (i : Int) : (List S48) := xs.getD i.toNat ([] : List S48)
theorem at_L11 {w : World} {A : Option Addr} {n : Nat} {xs : List (List S48)} (h : Kd.C (Kd.slice 48 k48) w A n xs) (i : Int) (h0 : 0 ≤ i) (h1 : i < n) : ∃ ad A0 c0, A = some ad ∧ w.cell? (ad.add i.toNat) = some (.slice A0 (rd_L11 xs i).length c0) ∧ (rd_L11 xs i).length ≤ c0 ∧ k48.C w A0 (rd_L11 xs i).length (rd_L11 xs i) := by
  obtain ⟨ad, c, e, _, hK, hc0⟩ := Kd.C_get h ([] : List S48) i h0 h1
  have hc : ∀ j u, c[j]? = some u → w.cell? (ad.add (i.toNat * 1 + j)) = some u := hc0
  obtain ⟨A0, c0, rfl, l0, g0⟩ := hK
  exact ⟨ad, A0, c0, e, by have hq := hc 0 _ rfl; rwa [Nat.mul_one, Nat.add_zero] at hq, l0, g0⟩

/-! #### struct type 33 -/
structure S33 where
  f0 : ByteArray
  f1 : ByteArray
  f2 : ByteArray
  f3 : ByteArray
  f4 : (List S73)
  f5 : Int
def z33 : S33 := ⟨(⟨#[]⟩ : ByteArray), (⟨#[]⟩ : ByteArray), (⟨#[]⟩ : ByteArray), (⟨#[]⟩ : ByteArray), ([] : List S73), (0 : Int)⟩
def k33 : Kd S33 := Kd.iso (Kd.pair Kd.string (Kd.pair Kd.string (Kd.pair Kd.string (Kd.pair Kd.string (Kd.pair (Kd.slice 73 k73) (Kd.int .i64)))))) (fun x : S33 => (x.f0, x.f1, x.f2, x.f3, x.f4, x.f5))
theorem k33_open {w : World} {x : S33} {cs : List Value} (h : k33.K w x cs) : ∃ A4 c4, cs = [.string x.f0, .string x.f1, .string x.f2, .string x.f3, .slice A4 x.f4.length c4, .int .i64 x.f5] ∧ x.f4.length ≤ c4 ∧ k73.C w A4 x.f4.length x.f4 := by
  obtain ⟨_, _, rfl, rfl, ⟨_, _, rfl, rfl, ⟨_, _, rfl, rfl, ⟨_, _, rfl, rfl, ⟨_, _, rfl, ⟨A4, c4, rfl, l4, g4⟩, rfl⟩⟩⟩⟩⟩ := h
  exact ⟨A4, c4, rfl, l4, g4⟩
theorem k33_openM {w : World} {base : Nat} {ok : Nat → Prop} {x : S33} {cs : List Value} (h : k33.M w base ok x cs) : ∃ v4, cs = [.string x.f0, .string x.f1, .string x.f2, .string x.f3, v4, .int .i64 x.f5] ∧ k73.R 73 w base ok v4 x.f4 := by
  obtain ⟨_, _, rfl, rfl, ⟨_, _, rfl, rfl, ⟨_, _, rfl, rfl, ⟨_, _, rfl, rfl, ⟨_, _, rfl, ⟨v4, rfl, g4⟩, rfl⟩⟩⟩⟩⟩ := h
  exact ⟨v4, rfl, g4⟩
theorem k33_mk (w : World) (x : S33) {A4 : Option Addr} {c4 : Nat} (l4 : x.f4.length ≤ c4) (g4 : k73.C w A4 x.f4.length x.f4) : k33.K w x [.string x.f0, .string x.f1, .string x.f2, .string x.f3, .slice A4 x.f4.length c4, .int .i64 x.f5] := ⟨[.string x.f0], [.string x.f1, .string x.f2, .string x.f3, .slice A4 x.f4.length c4, .int .i64 x.f5], rfl, rfl, ⟨[.string x.f1], [.string x.f2, .string x.f3, .slice A4 x.f4.length c4, .int .i64 x.f5], rfl, rfl, ⟨[.string x.f2], [.string x.f3, .slice A4 x.f4.length c4, .int .i64 x.f5], rfl, rfl, ⟨[.string x.f3], [.slice A4 x.f4.length c4, .int .i64 x.f5], rfl, rfl, ⟨[.slice A4 x.f4.length c4], [.int .i64 x.f5], rfl, ⟨A4, c4, rfl, l4, g4⟩, rfl⟩⟩⟩⟩⟩
theorem k33_mkM (w : World) (base : Nat) (ok : Nat → Prop) (x : S33) {v4 : Value} (g4 : k73.R 73 w base ok v4 x.f4) : k33.M w base ok x [.string x.f0, .string x.f1, .string x.f2, .string x.f3, v4, .int .i64 x.f5] := ⟨[.string x.f0], [.string x.f1, .string x.f2, .string x.f3, v4, .int .i64 x.f5], rfl, rfl, ⟨[.string x.f1], [.string x.f2, .string x.f3, v4, .int .i64 x.f5], rfl, rfl, ⟨[.string x.f2], [.string x.f3, v4, .int .i64 x.f5], rfl, rfl, ⟨[.string x.f3], [v4, .int .i64 x.f5], rfl, rfl, ⟨[v4], [.int .i64 x.f5], rfl, ⟨v4, rfl, g4⟩, rfl⟩⟩⟩⟩⟩
theorem k33_openF {W : World} {ok : Nat → Prop} {x : S33} {cs : List Value} (h : Kd.FK k33 W ok x cs) : ∃ A4 c4, cs = [.string x.f0, .string x.f1, .string x.f2, .string x.f3, .slice A4 x.f4.length c4, .int .i64 x.f5] ∧ x.f4.length ≤ c4 ∧ Kd.F k73 W ok A4 x.f4.length x.f4 := by
  obtain ⟨A4, c4, rfl, l4, _⟩ := k33_open (Kd.FK_now h)
  exact ⟨A4, c4, rfl, l4, (fun W' hW => by obtain ⟨A4_, c4_, he, l4_, g4_⟩ := k33_open (h W' hW); injection (Option.some.inj (show some (Value.slice A4 x.f4.length c4) = some (Value.slice A4_ x.f4.length c4_) from congrArg (fun l => l[4]?) he)) with ha_ _ _; rw [ha_]; exact g4_)⟩
theorem k33_mkF (W : World) (ok : Nat → Prop) (x : S33) {A4 : Option Addr} {c4 : Nat} (l4 : x.f4.length ≤ c4) (g4 : Kd.F k73 W ok A4 x.f4.length x.f4) : Kd.FK k33 W ok x [.string x.f0, .string x.f1, .string x.f2, .string x.f3, .slice A4 x.f4.length c4, .int .i64 x.f5] := fun W2 hW => k33_mk W2 x l4 (g4 W2 hW)
def rd_T33 (xs : List S33) (i : Int) : S33 := xs.getD i.toNat z33
theorem at_T33 {w : World} {A : Option Addr} {n : Nat} {xs : List S33} (h : Kd.C k33 w A n xs) (i : Int) (h0 : 0 ≤ i) (h1 : i < n) : ∃ ad A4 c4, A = some ad ∧ w.cell? (ad.add (i.toNat * 6)) = some (.string (rd_T33 xs i).f0) ∧ w.cell? ⟨(ad.add (i.toNat * 6)).block, (ad.add (i.toNat * 6)).off + 1, none⟩ = some (.string (rd_T33 xs i).f1) ∧ w.cell? ⟨(ad.add (i.toNat * 6)).block, (ad.add (i.toNat * 6)).off + 2, none⟩ = some (.string (rd_T33 xs i).f2) ∧ w.cell? ⟨(ad.add (i.toNat * 6)).block, (ad.add (i.toNat * 6)).off + 3, none⟩ = some (.string (rd_T33 xs i).f3) ∧ w.cell? ⟨(ad.add (i.toNat * 6)).block, (ad.add (i.toNat * 6)).off + 4, none⟩ = some (.slice A4 (rd_T33 xs i).f4.length c4) ∧ w.cell? ⟨(ad.add (i.toNat * 6)).block, (ad.add (i.toNat * 6)).off + 5, none⟩ = some (.int .i64 (rd_T33 xs i).f5) ∧ (rd_T33 xs i).f4.length ≤ c4 ∧ k73.C w A4 (rd_T33 xs i).f4.length (rd_T33 xs i).f4 := by
  obtain ⟨ad, c, e, _, hK, hc0⟩ := Kd.C_get h z33 i h0 h1
  have hc : ∀ j u, c[j]? = some u → w.cell? (ad.add (i.toNat * 6 + j)) = some u := hc0
  obtain ⟨A4, c4, rfl, l4, g4⟩ := k33_open hK
  exact ⟨ad, A4, c4, e, hc 0 _ rfl, by rw [← add_field _ _ 1 (by omega)]; exact hc 1 _ rfl, by rw [← add_field _ _ 2 (by omega)]; exact hc 2 _ rfl, by rw [← add_field _ _ 3 (by omega)]; exact hc 3 _ rfl, by rw [← add_field _ _ 4 (by omega)]; exact hc 4 _ rfl, by rw [← add_field _ _ 5 (by omega)]; exact hc 5 _ rfl, l4, g4⟩

/-! #### struct type 65 -/
structure S65 where
  f0 : ByteArray
  f1 : ByteArray
  f2 : Bool
def z65 : S65 := ⟨(⟨#[]⟩ : ByteArray), (⟨#[]⟩ : ByteArray), false⟩
def k65 : Kd S65 := Kd.iso (Kd.pair Kd.string (Kd.pair Kd.string Kd.bool)) (fun x : S65 => (x.f0, x.f1, x.f2))
theorem k65_open {w : World} {x : S65} {cs : List Value} (h : k65.K w x cs) : cs = [.string x.f0, .string x.f1, .bool x.f2] := by
  obtain ⟨_, _, rfl, rfl, ⟨_, _, rfl, rfl, rfl⟩⟩ := h
  exact rfl
theorem k65_openM {w : World} {base : Nat} {ok : Nat → Prop} {x : S65} {cs : List Value} (h : k65.M w base ok x cs) : cs = [.string x.f0, .string x.f1, .bool x.f2] := by
  obtain ⟨_, _, rfl, rfl, ⟨_, _, rfl, rfl, rfl⟩⟩ := h
  exact rfl
theorem k65_mk (w : World) (x : S65)  : k65.K w x [.string x.f0, .string x.f1, .bool x.f2] := ⟨[.string x.f0], [.string x.f1, .bool x.f2], rfl, rfl, ⟨[.string x.f1], [.bool x.f2], rfl, rfl, rfl⟩⟩
theorem k65_mkM (w : World) (base : Nat) (ok : Nat → Prop) (x : S65)  : k65.M w base ok x [.string x.f0, .string x.f1, .bool x.f2] := ⟨[.string x.f0], [.string x.f1, .bool x.f2], rfl, rfl, ⟨[.string x.f1], [.bool x.f2], rfl, rfl, rfl⟩⟩
theorem k65_mkF (W : World) (ok : Nat → Prop) (x : S65) : Kd.FK k65 W ok x [.string x.f0, .string x.f1, .bool x.f2] := fun W2 _ => k65_mk W2 x
def rd_T65 (xs : List S65) (i : Int) : S65 := xs.getD i.toNat z65
theorem at_T65 {w : World} {A : Option Addr} {n : Nat} {xs : List S65} (h : Kd.C k65 w A n xs) (i : Int) (h0 : 0 ≤ i) (h1 : i < n) : ∃ ad , A = some ad ∧ w.cell? (ad.add (i.toNat * 3)) = some (.string (rd_T65 xs i).f0) ∧ w.cell? ⟨(ad.add (i.toNat * 3)).block, (ad.add (i.toNat * 3)).off + 1, none⟩ = some (.string (rd_T65 xs i).f1) ∧ w.cell? ⟨(ad.add (i.toNat * 3)).block, (ad.add (i.toNat * 3)).off + 2, none⟩ = some (.bool (rd_T65 xs i).f2) := by
  obtain ⟨ad, c, e, _, hK, hc0⟩ := Kd.C_get h z65 i h0 h1
  have hc : ∀ j u, c[j]? = some u → w.cell? (ad.add (i.toNat * 3 + j)) = some u := hc0
  obtain rfl := k65_open hK
  exact ⟨ad, e, hc 0 _ rfl, by rw [← add_field _ _ 1 (by omega)]; exact hc 1 _ rfl, by rw [← add_field _ _ 2 (by omega)]; exact hc 2 _ rfl⟩

end Go.Proofs.YtclmjmfcggkpaaaGreatDoor.PX
