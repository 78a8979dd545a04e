import Derived.Test.YtkihaebaccdjdaaGreatDoorCards
import Derived.Test.YtkihaebaccdjdaaGreatDoorTie
import Derived.Test.YtkihaebaccdjdaaGreatDoorK30
import Derived.Test.YtkihaebaccdjdaaGreatDoorK13
import Derived.Lib.LaidU8
import Derived.WalkKit
import Derived.ProofKit
import Derived.OpenShut
import Derived.OpenVars
import Derived.Deep.DeepHandedRow
import Derived.Deep.DeepWitnessRowRef
import Derived.Deep.DeepLaidRun
import Derived.Lib.LaidTab
import Derived.Lib.LaidIn
import Derived.Stop.LaidErr
import Derived.MakeChecks
namespace Go.Proofs.YtkihaebaccdjdaaGreatDoor
open Go.ChangeShapes Go.WideShapes Go.ChangeAt Go.RowKit
namespace Cl
theorem own : ownKnob Tryz.prog.godebug = none := by kernel_rfl
theorem laidOut : laidOutB Tryz.prog = true := by kernel_rfl
theorem gTab : Tryz.prog.globalNamed "loop.example/pub-g01523/pub/neturl.table" = some 0 := by kernel_rfl
theorem gTabType : (Tryz.prog.globals[0]?).map (·.type) = some 262 := by kernel_rfl
theorem cells262 : Tryz.prog.cellsOf 262 = 256 := by kernel_rfl
theorem cells5 : Tryz.prog.cellsOf 5 = 1 := by kernel_rfl
theorem varsOk : varsRowed Tryz.prog ["loop.example/pub-g01523/pub/neturl.table"] = true := by kernel_rfl

/-- Every argument reads as it did. -/
theorem trodAll_below {H : Type} {enc : TypeId × Value → H} {P : Program} (hl : laidOutB P = true) {W W' : World} (hb : Below W.heap.size W W') :
    ∀ {ts : List TypeId} {vs : List Value} {ds : List (DataW H)} {ps : List MemPlace}, (ts.all fun t => P.readableRec t && decide (t < P.types.size)) = true → DataW.TrodAll enc P W 0 (fun _ => true) true ts vs ds ps →
      DataW.TrodAll enc P W' 0 (fun b => decide (b < W.heap.size)) true ts vs ds ps
  | [], vs, ds, ps, _, h => by
    cases vs <;> cases ds <;> simp_all [DataW.TrodAll]
  | t :: ts, vs, ds, ps, ht, h => by
    obtain ⟨v, vs', d, ds', p, q, rfl, rfl, rfl, h0, r⟩ := trodAll_cons h
    simp only [List.all_cons, Bool.and_eq_true, decide_eq_true_eq] at ht
    have hlt := h.lt
    exact trodAll_cons_mk (Below.trod hl ht.1.1 ht.1.2 h0 hb (fun x hx => hlt x (by simp [hx]))) (trodAll_below hl hb (by simpa using ht.2) r)
/-- What is owed at the end of a call that hands back true and turns nothing that was there. -/
theorem post_true {H : Type} {enc : TypeId × Value → H} {P : Program} (hl : laidOutB P = true) (hbool : P.underlying 4 = some .bool) {f : Func} {s : ChangeSpec} (hts : (f.params.toList.all fun t => P.readableRec t && decide (t < P.types.size)) = true) (hvr : varsRowed P s.vars = true)
    (hres : f.resultTypes = #[4]) {W W' : World} {args : Array Value} {ds gs : List (DataW H)} {before : List MemPlace} (hW : DataW.Whole enc P f.params.toList s.vars false W args.toList ds gs before) (hb : Below W.heap.size W W')
    (hs : s.fn H (ds ++ gs) = { results := [.lit (.bool true)], args := ds, vars := gs }) : s.post enc P f false true false false W args (.bool true) W' := by
  have hW' := hW
  obtain ⟨p, q, hA, hV, rfl, _, _⟩ := hW
  refine ⟨ds, gs, p ++ q, [], p, q, hW', ?_, ?_, ?_, hb.frame _, fun h => by cases h⟩
  · rw [hs, hres]
    exact trodAll_cons_mk (shut_bool hbool _) trodAll_mk0
  · rw [hs]; exact trodAll_below hl hb hts hA
  · rw [hs]; exact Below.trodVars hl hb hvr hV
/-- The tables, off the row's list. -/
theorem laid_eq : (Rows.laid_loop_example_pub_g01523_pub_neturl_table : DataW Unit) = Lib.tabData .u8 H.tabL := by kernel_rfl
abbrev laidL : List (String × DataW Unit) := [("math/bits.deBruijn32tab", Rows.laid_math_bits_deBruijn32tab), ("math/bits.deBruijn64tab", Rows.laid_math_bits_deBruijn64tab), ("internal/strconv.uint64pow10", Rows.laid_internal_strconv_uint64pow10), ("unicode/utf8.acceptRanges", Rows.laid_unicode_utf8_acceptRanges), ("loop.example/pub-g01523/pub/neturl.table", Rows.laid_loop_example_pub_g01523_pub_neturl_table), ("unicode/utf8.first", Rows.laid_unicode_utf8_first)]
set_option maxRecDepth 1000000 in
theorem tab_of {W : World} (h : laidMet Tryz.prog laidL W) : H.Tab W := by
  have h := h.tail.tail.tail.tail
  rw [laid_eq] at h
  have h1 : Lib.TabIs Tryz.prog W "loop.example/pub-g01523/pub/neturl.table" .u8 H.tabL := Lib.tabIs_of_head gTab gTabType Tryz.underlying262 Tryz.underlying5 cells5 cells262 h
  have hlen : H.tabL.length = 256 := by kernel_rfl
  intro c hc
  have := h1.cell gTab c (by rw [hlen]; exact hc)
  rw [this]
  simp only [H.tab, List.getD_eq_getElem?_getD, List.getElem?_eq_getElem (show c < H.tabL.length by rw [hlen]; exact hc), Option.getD_some]
theorem u8x : U8Extra Tryz.prog Tryz.lays260_ren := { n3 := by kernel_rfl, n4 := by kernel_rfl, y3 := by kernel_rfl, y4 := by kernel_rfl, c5 := by kernel_rfl, c119 := by kernel_rfl, c138 := by kernel_rfl }
theorem first_eq : (Rows.laid_unicode_utf8_first : DataW Unit) = Lib.firstData := by kernel_rfl
theorem accept_eq : (Rows.laid_unicode_utf8_acceptRanges : DataW Unit) = Lib.acceptData := by kernel_rfl
theorem u8_of {W : World} (h : laidMet Tryz.prog laidL W) : Lib.Utf8Tabs 2 3 W := by
  have h3 := Lib.laidMet.reads h (n := "unicode/utf8.first") (d := Rows.laid_unicode_utf8_first) (by simp)
  have h4 := Lib.laidMet.reads h (n := "unicode/utf8.acceptRanges") (d := Rows.laid_unicode_utf8_acceptRanges) (by simp)
  rw [first_eq] at h3
  rw [accept_eq] at h4
  exact utf8Tabs_of_reads Tryz.lays260 u8x h3 h4
theorem four_of {W : World} (h : Lib.Utf8Tabs 2 3 W) : 4 ≤ W.heap.size := World.block_lt_of_cell? W _ (h.2 0 (by omega)).1
def lits1 : DataW Unit → List Value
  | .lit (.int k n) => [.int k n]
  | _ => []
def lits2 : DataW Unit → List Value
  | .agg xs => xs.flatMap lits1
  | d => lits1 d
def lits3 : DataW Unit → List Value
  | .agg xs => xs.flatMap lits2
  | d => lits2 d
noncomputable def laidWorld (os : Os) : World :=
  let w0 := World.holding Tryz.prog os ⟨#[], #[], []⟩
  let put (h : Array Obj) (g : Nat) (cs : Array Value) : Array Obj := h.modify g fun
    | .cells _ t frozen => .cells cs t frozen
    | o => o
  let h0 := put w0.heap 0 (lits3 Rows.laid_loop_example_pub_g01523_pub_neturl_table).toArray
  let h1 := put h0 1 (lits3 Rows.laid_internal_strconv_uint64pow10).toArray
  let h2 := put h1 2 (lits3 Rows.laid_unicode_utf8_first).toArray
  let h3 := put h2 3 (lits3 Rows.laid_unicode_utf8_acceptRanges).toArray
  let h4 := put h3 4 (lits3 Rows.laid_math_bits_deBruijn32tab).toArray
  let h5 := put h4 5 (lits3 Rows.laid_math_bits_deBruijn64tab).toArray
  { w0 with heap := h5 }
set_option maxRecDepth 1000000 in
theorem pieceA (os : Os) (args : Array Value) : LaidIn Tryz.prog ((laidWorld os).forCall (fun _ _ => 0) ⟨#[], args, []⟩).memory [("math/bits.deBruijn32tab", Rows.laid_math_bits_deBruijn32tab), ("math/bits.deBruijn64tab", Rows.laid_math_bits_deBruijn64tab), ("internal/strconv.uint64pow10", Rows.laid_internal_strconv_uint64pow10), ("unicode/utf8.acceptRanges", Rows.laid_unicode_utf8_acceptRanges)] [4, 5, 1, 3] :=
  LaidIn.of_run [4, 5, 1, 3] 8 (by kernel_rfl) (by kernel_rfl) (by kernel_rfl) (by kernel_rfl)
set_option maxRecDepth 1000000 in
theorem pieceE (os : Os) (args : Array Value) : LaidIn Tryz.prog ((laidWorld os).forCall (fun _ _ => 0) ⟨#[], args, []⟩).memory [("loop.example/pub-g01523/pub/neturl.table", Rows.laid_loop_example_pub_g01523_pub_neturl_table)] [0] :=
  LaidIn.of_run [0] 8 (by kernel_rfl) (by kernel_rfl) (by kernel_rfl) (by kernel_rfl)
set_option maxRecDepth 1000000 in
theorem pieceF (os : Os) (args : Array Value) : LaidIn Tryz.prog ((laidWorld os).forCall (fun _ _ => 0) ⟨#[], args, []⟩).memory [("unicode/utf8.first", Rows.laid_unicode_utf8_first)] [2] :=
  LaidIn.of_run [2] 8 (by kernel_rfl) (by kernel_rfl) (by kernel_rfl) (by kernel_rfl)
set_option maxRecDepth 1000000 in
theorem laid_met (os : Os) (args : Array Value) : laidMet Tryz.prog laidL ((laidWorld os).forCall (fun _ _ => 0) ⟨#[], args, []⟩).memory :=
  (((pieceA os args).append (pieceE os args) (by kernel_rfl)).append (pieceF os args) (by kernel_rfl)).met
end Cl
end Go.Proofs.YtkihaebaccdjdaaGreatDoor
