import Derived.Test.YtclmjmfcggkpaaaGreatDoorU4
import Derived.Deep.Slices
import Derived.WalkKit
import Derived.ProofKit
import Derived.OpenShut
import Derived.Test.YtclmjmfcggkpaaaGreatDoorU8
import Derived.Test.YtclmjmfcggkpaaaGreatDoorU18
import Derived.Test.YtclmjmfcggkpaaaGreatDoorU26
set_option linter.unusedVariables false
set_option linter.unusedSimpArgs false
namespace Go.Proofs.YtclmjmfcggkpaaaGreatDoor
open Go.RowKit Go.ChangeShapes Go.WideShapes Go.Proofs.YtclmjmfcggkpaaaGreatDoorW.PrintWords Go.Proofs.YtclmjmfcggkpaaaGreatDoorW.PrintLast Go.Proofs.YtclmjmfcggkpaaaGreatDoorW.PrintMore
open PX
namespace Cl
set_option maxRecDepth 100000
theorem cells48 : Tryz.prog.cellsOf 48 = 6 := by kernel_rfl
theorem cells3 : Tryz.prog.cellsOf 3 = 1 := by kernel_rfl
theorem cells2 : Tryz.prog.cellsOf 2 = 1 := by kernel_rfl
theorem cells9 : Tryz.prog.cellsOf 9 = 1 := by kernel_rfl
theorem wf_rng {n : Int} (h : (Lit.int .i64 n).wf = true) : -9223372036854775808 ≤ n ∧ n ≤ 9223372036854775807 := by
 exact bounds_i64 h
/-- One field's cells. -/
theorem open_field {H : Type} {enc : TypeId × Value → H} {W : World} {sp : Nat → Bool} {hd : Bool} {n : Nat} {cs : List Value} {x : DataW H × List MemPlace} (h : DataW.trod enc Tryz.prog W 0 sp hd n 48 cs = some x) :
 ∃ f : S48, cs = [.int .i64 f.f0, .string f.f1, .string f.f2, .int .i64 f.f3, .string f.f4, .int .i64 f.f5] ∧ -9223372036854775808 ≤ f.f5 ∧ f.f5 ≤ 9223372036854775807 := by
 obtain ⟨xs, k, _, _, hl, hxl, hf⟩ := DataW.trod_struct Tryz.underlying48 h
 rw [cells48] at hl
 match cs, hl with
 | [v0, v1, v2, v3, v4, v5], _ =>
   match xs, hxl with
   | [y0, y1, y2, y3, y4, y5], _ =>
     have g0 := hf 0 _ rfl
     have g1 := hf 1 _ rfl
     have g2 := hf 2 _ rfl
     have g3 := hf 3 _ rfl
     have g4 := hf 4 _ rfl
     have g5 := hf 5 _ rfl
     simp [cells3, cells2, cells9] at g0 g1 g2 g3 g4 g5
     obtain ⟨n0, e0, _, _⟩ := DataW.trod_int Tryz.underlying3 g0
     obtain ⟨n1, e1, _, _⟩ := DataW.trod_string Tryz.underlying9 g1
     obtain ⟨n2, e2, _, _⟩ := DataW.trod_string Tryz.underlying9 g2
     obtain ⟨n3, e3, _, _⟩ := DataW.trod_int Tryz.underlying3 g3
     obtain ⟨n4, e4, _, _⟩ := DataW.trod_string Tryz.underlying9 g4
     obtain ⟨n5, e5, _, w5⟩ := DataW.trod_int Tryz.underlying2 g5
     simp only [List.cons.injEq, and_true] at e0 e1 e2 e3 e4 e5
     subst e0 e1 e2 e3 e4 e5
     exact ⟨⟨n0, n1, n2, n3, n4, n5⟩, rfl, wf_rng w5⟩
theorem open_fields {H : Type} {enc : TypeId × Value → H} {W : World} {b0 : Nat} {hd : Bool} {v : Value} {d : DataW H} {p : List MemPlace} (hval : Value.okWide Tryz.prog W .any b0 22 v) (h : DataW.Trod enc Tryz.prog W 0 (fun _ => true) hd 22 v d p) :
 ∃ (A : Option Addr) (c : Nat) (fs : List S48), v = .slice A fs.length c ∧ fs.length ≤ c ∧ Kd.C k48 W A fs.length fs ∧ ∀ f ∈ fs, -9223372036854775808 ≤ f.f5 ∧ f.f5 ≤ 9223372036854775807 := by
 obtain ⟨A, len, cap, rfl⟩ := okWide_slice Tryz.underlying22 hval
 obtain ⟨fuel, hf⟩ := h
 rcases Deep.open_slice Tryz.underlying22 hf with ⟨hcs, _⟩ | ⟨a, len', cap', m, n, D, Pl, hcs, _, hl, hm, hmm, _, hx⟩
 ·simp [Value.cells] at hcs
  obtain ⟨rfl, rfl, rfl⟩ := hcs
  exact ⟨none, 0, [], rfl, Nat.le_refl _, ⟨rfl, by simp, fun h => absurd h (by simp)⟩, fun f hf => by cases hf⟩
 ·simp [Value.cells] at hcs
  obtain ⟨rfl, rfl, rfl⟩ := hcs
  have hlm : len ≤ m := by rw [hmm]; simp; exact hl
  have each : ∀ i, i < len → ∃ f : S48, (∀ j u, ([.int .i64 f.f0, .string f.f1, .string f.f2, .int .i64 f.f3, .string f.f4, .int .i64 f.f5] : List Value)[j]? = some u → W.cell? (a.add (i * 6 + j)) = some u) ∧ -9223372036854775808 ≤ f.f5 ∧ f.f5 ≤ 9223372036854775807 := by
   intro i hi
   obtain ⟨cs', h1, h2⟩ := hx i (by omega)
   rw [cells48] at h1
   obtain ⟨_, hlen, hcell⟩ := World.cells?_some h1
   obtain ⟨f, e, hr⟩ := open_field h2
   subst e
   refine ⟨f, fun j u hj => ?_, hr⟩
   have hj6 : j < 6 := by
    have := (List.getElem?_eq_some_iff.1 hj).1
    simpa using this
   rw [← hj, ← hcell j hj6, Deep.add_add]
  have each' : ∃ g : Nat → S48, ∀ i, i < len → (∀ j u, ([.int .i64 (g i).f0, .string (g i).f1, .string (g i).f2, .int .i64 (g i).f3, .string (g i).f4, .int .i64 (g i).f5] : List Value)[j]? = some u → W.cell? (a.add (i * 6 + j)) = some u) ∧ -9223372036854775808 ≤ (g i).f5 ∧ (g i).f5 ≤ 9223372036854775807 := by
   haveI : Inhabited S48 := ⟨z48⟩
   exact Deep.choose_lt each
  obtain ⟨g, hg⟩ := each'
  refine ⟨some a, cap, (List.range len).map g, by simp, by simpa using hl, ?_, ?_⟩
  ·refine ⟨rfl, by simp; unfold maxLen at hm; omega, fun _ => ⟨a, rfl, fun j p hj => ?_⟩⟩
   have hlt : j < len := by
    have := (List.getElem?_eq_some_iff.1 hj).1
    simpa using this
   obtain rfl : g j = p := by
    rw [List.getElem?_map, List.getElem?_range hlt] at hj
    exact Option.some.inj hj
   exact ⟨_, rfl, k48_mk W _, fun i u hi => (hg j hlt).1 i u hi⟩
  ·intro f hf
   obtain ⟨i, hi, rfl⟩ := List.mem_map.1 hf
   exact (hg i (List.mem_range.1 hi)).2
end Cl
end Go.Proofs.YtclmjmfcggkpaaaGreatDoor
set_option linter.unusedVariables false
namespace Go.Proofs.YtclmjmfcggkpaaaGreatDoor
open Go.ChangeShapes Go.WideShapes Go.ChangeAt Go.RowKit
namespace Cl
set_option maxRecDepth 100000
theorem gPow : Tryz.prog.globalNamed "internal/strconv.uint64pow10" = some 6 := by kernel_rfl
theorem gPowType : (Tryz.prog.globals[6]?).map (·.type) = some 254 := by kernel_rfl
theorem cells254 : Tryz.prog.cellsOf 254 = 20 := by kernel_rfl
theorem cells111 : Tryz.prog.cellsOf 111 = 1 := by kernel_rfl
theorem laid_pow_eq : (Rows.laid_internal_strconv_uint64pow10 : DataW Unit) = Lib.tabData .u64 Lib.pow10Tab := by kernel_rfl
/-- The powers of ten, off the row's list. -/
theorem pow_of {W : World} {rest : List (String × DataW Unit)} (h : laidMet Tryz.prog (("internal/strconv.uint64pow10", Rows.laid_internal_strconv_uint64pow10) :: rest) W) : H.Pow W := by
 rw [laid_pow_eq] at h
 exact Lib.tabIs_of_head gPow gPowType Tryz.underlying254 Tryz.underlying111 cells111 cells254 h
end Cl
end Go.Proofs.YtclmjmfcggkpaaaGreatDoor
set_option linter.unusedVariables false
set_option linter.unusedSimpArgs false
namespace Go.Proofs.YtclmjmfcggkpaaaGreatDoor
open Go.RowKit Go.ChangeShapes Go.WideShapes Go.Proofs.YtclmjmfcggkpaaaGreatDoorW.PrintWords Go.Proofs.YtclmjmfcggkpaaaGreatDoorW.PrintLast Go.Proofs.YtclmjmfcggkpaaaGreatDoorW.PrintMore
open PX
namespace Cl
set_option maxRecDepth 100000
theorem gSpc : Tryz.prog.globalNamed "strings.asciiSpace" = some 0 := by kernel_rfl
theorem gSpcType : (Tryz.prog.globals[0]?).map (·.type) = some 188 := by kernel_rfl
theorem cells188 : Tryz.prog.cellsOf 188 = 256 := by kernel_rfl
def spcL : List Int := (List.range 256).map fun c => if c = 9 ∨ c = 10 ∨ c = 11 ∨ c = 12 ∨ c = 13 ∨ c = 32 then 1 else 0
theorem laid_spc_eq : (Rows.laid_strings_asciiSpace : DataW Unit) = Lib.tabData .u8 spcL := by kernel_rfl
/-- The table of spaces, off the row's list. -/
theorem spc_of {W : World} {rest : List (String × DataW Unit)} (h : laidMet Tryz.prog (("strings.asciiSpace", Rows.laid_strings_asciiSpace) :: rest) W) : HH.Spc W := by
 rw [laid_spc_eq] at h
 have h1 : Lib.TabIs Tryz.prog W "strings.asciiSpace" .u8 spcL := Lib.tabIs_of_head gSpc gSpcType Tryz.underlying188 Tryz.underlying5 cells5 cells188 h
 intro c h33 h127
 have hlen : spcL.length = 256 := by simp [spcL]
 have := h1.cell gSpc c (by rw [hlen]; omega)
 rw [this]
 have h2 : spcL[c]? = some 0 := by
  unfold spcL
  rw [List.getElem?_map, List.getElem?_range (by omega)]
  simp
  omega
 rw [List.getD_eq_getElem?_getD, h2]
 rfl
end Cl
end Go.Proofs.YtclmjmfcggkpaaaGreatDoor
