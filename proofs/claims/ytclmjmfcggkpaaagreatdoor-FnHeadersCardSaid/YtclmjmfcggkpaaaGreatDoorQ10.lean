import Derived.Test.YtclmjmfcggkpaaaGreatDoorCards
import Derived.Test.YtclmjmfcggkpaaaGreatDoorTie
import Derived.Test.YtclmjmfcggkpaaaGreatDoorQ9
import Derived.WalkKit
import Derived.ProofKit
import Derived.OpenShut
import Derived.OpenVars
import Derived.Deep.DeepHandedRow
import Derived.Deep.DeepWitnessRowRef
import Derived.Deep.DeepLaidRun
import Derived.Lib.LaidTab
import Derived.Lib.LaidIn
import Derived.Stop.LaidErr
import Derived.MakeChecks
import Derived.Test.YtclmjmfcggkpaaaGreatDoorQ5
import Derived.Deep.RegionHeld3
namespace Go.Proofs.YtclmjmfcggkpaaaGreatDoor
open Go.ChangeShapes Go.WideShapes Go.ChangeAt Go.RowKit
namespace Cl
theorem own : ownKnob Tryz.prog.godebug = none := by kernel_rfl
theorem laidOut : laidOutB Tryz.prog = true := by kernel_rfl
theorem gTab : Tryz.prog.globalNamed "loop.example/pub-g01523/pub/neturl.table" = some 1 := by kernel_rfl
theorem gTabType : (Tryz.prog.globals[1]?).map (·.type) = some 198 := by kernel_rfl
theorem cells198 : Tryz.prog.cellsOf 198 = 256 := by kernel_rfl
theorem cells5 : Tryz.prog.cellsOf 5 = 1 := by kernel_rfl
theorem varsOk : varsRowed Tryz.prog ["loop.example/pub-g01523/pub/neturl.table"] = true := by kernel_rfl

/-- Every argument reads as it did. -/
theorem trodAll_below {H : Type} {enc : TypeId × Value → H} {P : Program} (hl : laidOutB P = true) {W W' : World} (hb : Below W.heap.size W W') :
 ∀ {ts : List TypeId} {vs : List Value} {ds : List (DataW H)} {ps : List MemPlace}, (ts.all fun t => P.readableRec t && decide (t < P.types.size)) = true → DataW.TrodAll enc P W 0 (fun _ => true) true ts vs ds ps →
  DataW.TrodAll enc P W' 0 (fun b => decide (b < W.heap.size)) true ts vs ds ps
 | [], vs, ds, ps, _, h => by
   cases vs <;> cases ds <;> simp_all [DataW.TrodAll]
 | t :: ts, vs, ds, ps, ht, h => by
   obtain ⟨v, vs', d, ds', p, q, rfl, rfl, rfl, h0, r⟩ := trodAll_cons h
   simp only [List.all_cons, Bool.and_eq_true, decide_eq_true_eq] at ht
   have hlt := h.lt
   exact trodAll_cons_mk (Below.trod hl ht.1.1 ht.1.2 h0 hb (fun x hx => hlt x (by simp [hx]))) (trodAll_below hl hb (by simpa using ht.2) r)
/-- What is owed at the end of a call that hands back true and turns nothing that was there. -/
theorem post_true {H : Type} {enc : TypeId × Value → H} {P : Program} (hl : laidOutB P = true) (hbool : P.underlying 4 = some .bool) {f : Func} {s : ChangeSpec} (hts : (f.params.toList.all fun t => P.readableRec t && decide (t < P.types.size)) = true) (hvr : varsRowed P s.vars = true)
 (hres : f.resultTypes = #[4]) {W W' : World} {args : Array Value} {ds gs : List (DataW H)} {before : List MemPlace} (hW : DataW.Whole enc P f.params.toList s.vars false W args.toList ds gs before) (hb : Below W.heap.size W W')
 (hs : s.fn H (ds ++ gs) = { results := [.lit (.bool true)], args := ds, vars := gs }) : s.post enc P f false true false false W args (.bool true) W' := by
 have hW' := hW
 obtain ⟨p, q, hA, hV, rfl, _, _⟩ := hW
 refine ⟨ds, gs, p ++ q, [], p, q, hW', ?_, ?_, ?_, hb.frame _, fun h => by cases h⟩
 ·rw [hs, hres]
  exact trodAll_cons_mk (shut_bool hbool _) trodAll_mk0
 ·rw [hs]; exact trodAll_below hl hb hts hA
 ·rw [hs]; exact Below.trodVars hl hb hvr hV
/-- The table of net/url, off the row's list. -/
theorem laid_eq : (Rows.laid_loop_example_pub_g01523_pub_neturl_table : DataW Unit) = Lib.tabData .u8 H.tabL := by kernel_rfl
set_option maxRecDepth 1000000 in
theorem tab_of {W : World} (h : laidMet Tryz.prog [("loop.example/pub-g01523/pub/neturl.table", Rows.laid_loop_example_pub_g01523_pub_neturl_table), ("unicode/utf8.first", Rows.laid_unicode_utf8_first)] W) : H.Tab W := by
 rw [laid_eq] at h
 have h1 : Lib.TabIs Tryz.prog W "loop.example/pub-g01523/pub/neturl.table" .u8 H.tabL := Lib.tabIs_of_head (rest := [("unicode/utf8.first", Rows.laid_unicode_utf8_first)]) gTab gTabType Tryz.underlying198 Tryz.underlying5 cells5 cells198 h
 have hlen : H.tabL.length = 256 := by kernel_rfl
 intro c hc
 have := h1.cell gTab c (by rw [hlen]; exact hc)
 rw [this]
 simp only [H.tab, List.getD_eq_getElem?_getD, List.getElem?_eq_getElem (show c < H.tabL.length by rw [hlen]; exact hc), Option.getD_some]
def lits1 : DataW Unit → List Value
 | .lit (.int k n) => [.int k n]
 | _ => []
def lits2 : DataW Unit → List Value
 | .agg xs => xs.flatMap lits1
 | d => lits1 d
def lits3 : DataW Unit → List Value
 | .agg xs => xs.flatMap lits2
 | d => lits2 d
noncomputable def laidWorld (os : Os) : World :=
 let N := (World.settled Tryz.prog os).heap.size
 let w0 := World.holding Tryz.prog os ⟨#[
  .cells #[.string ⟨#[118, 97, 108, 117, 101, 32, 111, 117, 116, 32, 111, 102, 32, 114, 97, 110, 103, 101]⟩] 229,
  .cells #[.string ⟨#[105, 110, 118, 97, 108, 105, 100, 32, 115, 121, 110, 116, 97, 120]⟩] 229,
  .cells #[.int .u16 9, .int .u16 13, .int .u16 1, .int .u16 32, .int .u16 133, .int .u16 101, .int .u16 160, .int .u16 5760, .int .u16 5600, .int .u16 8192, .int .u16 8202, .int .u16 1, .int .u16 8232, .int .u16 8233, .int .u16 1, .int .u16 8239, .int .u16 8287, .int .u16 48, .int .u16 12288, .int .u16 12288, .int .u16 1] 241,
  .cells #[.slice (some ⟨N + 2, 0, none⟩) 7 7, .slice none 0 0, .int .i64 2] 238], #[], []⟩
 let put (h : Array Obj) (g : Nat) (cs : Array Value) : Array Obj := h.modify g fun
  | .cells _ t frozen => .cells cs t frozen
  | o => o
 let h0 := put w0.heap 0 (lits3 Rows.laid_strings_asciiSpace).toArray
 let h1 := put h0 1 (lits3 Rows.laid_loop_example_pub_g01523_pub_neturl_table).toArray
 let h2 := put h1 2 #[.pointer (some ⟨N + 3, 0, none⟩)]
 let h3 := put h2 3 #[.iface 227 (.pointer (some ⟨N + 1, 0, none⟩))]
 let h4 := put h3 4 #[.iface 227 (.pointer (some ⟨N, 0, none⟩))]
 let h6 := put h4 6 (lits3 Rows.laid_internal_strconv_uint64pow10).toArray
 let h7 := put h6 7 (lits3 Rows.laid_unicode_utf8_first).toArray
 let h8 := put h7 8 (lits3 Rows.laid_unicode_utf8_acceptRanges).toArray
 let h9 := put h8 9 (lits3 Rows.laid_math_bits_deBruijn32tab).toArray
 let h10 := put h9 10 (lits3 Rows.laid_math_bits_deBruijn64tab).toArray
 { w0 with heap := h10 }
noncomputable abbrev N0 : Nat := (World.settled Tryz.prog default).heap.size
set_option maxRecDepth 1000000 in
theorem pieceA (os : Os) (args : Array Value) : LaidIn Tryz.prog ((laidWorld os).forCall (fun _ _ => 0) ⟨#[], args, []⟩).memory [("math/bits.deBruijn32tab", Rows.laid_math_bits_deBruijn32tab), ("math/bits.deBruijn64tab", Rows.laid_math_bits_deBruijn64tab), ("internal/strconv.uint64pow10", Rows.laid_internal_strconv_uint64pow10), ("unicode/utf8.acceptRanges", Rows.laid_unicode_utf8_acceptRanges)] [9, 10, 6, 8] :=
 LaidIn.of_run [9, 10, 6, 8] 8 (by kernel_rfl) (by kernel_rfl) (by kernel_rfl) (by kernel_rfl)
set_option maxRecDepth 1000000 in
theorem pieceB (os : Os) (args : Array Value) : LaidIn Tryz.prog ((laidWorld os).forCall (fun _ _ => 0) ⟨#[], args, []⟩).memory [("strconv.ErrRange", Rows.laid_strconv_ErrRange), ("strconv.ErrSyntax", Rows.laid_strconv_ErrSyntax)] [4, N0, 3, N0 + 1] :=
 LaidIn.of_run [4, N0, 3, N0 + 1] 8 (by kernel_rfl) (by kernel_rfl) (by kernel_rfl) (by kernel_rfl)
set_option maxRecDepth 1000000 in
theorem pieceC (os : Os) (args : Array Value) : LaidIn Tryz.prog ((laidWorld os).forCall (fun _ _ => 0) ⟨#[], args, []⟩).memory [("unicode.White_Space", Rows.laid_unicode_White_Space)] [2, N0 + 3, N0 + 2] :=
 LaidIn.of_run [2, N0 + 3, N0 + 2] 8 (by kernel_rfl) (by kernel_rfl) (by kernel_rfl) (by kernel_rfl)
set_option maxRecDepth 1000000 in
theorem pieceD (os : Os) (args : Array Value) : LaidIn Tryz.prog ((laidWorld os).forCall (fun _ _ => 0) ⟨#[], args, []⟩).memory [("strings.asciiSpace", Rows.laid_strings_asciiSpace)] [0] :=
 LaidIn.of_run [0] 8 (by kernel_rfl) (by kernel_rfl) (by kernel_rfl) (by kernel_rfl)
set_option maxRecDepth 1000000 in
theorem pieceE (os : Os) (args : Array Value) : LaidIn Tryz.prog ((laidWorld os).forCall (fun _ _ => 0) ⟨#[], args, []⟩).memory [("loop.example/pub-g01523/pub/neturl.table", Rows.laid_loop_example_pub_g01523_pub_neturl_table)] [1] :=
 LaidIn.of_run [1] 8 (by kernel_rfl) (by kernel_rfl) (by kernel_rfl) (by kernel_rfl)
set_option maxRecDepth 1000000 in
theorem pieceF (os : Os) (args : Array Value) : LaidIn Tryz.prog ((laidWorld os).forCall (fun _ _ => 0) ⟨#[], args, []⟩).memory [("unicode/utf8.first", Rows.laid_unicode_utf8_first)] [7] :=
 LaidIn.of_run [7] 8 (by kernel_rfl) (by kernel_rfl) (by kernel_rfl) (by kernel_rfl)
set_option maxRecDepth 1000000 in
theorem laid_met (os : Os) (args : Array Value) : laidMet Tryz.prog Rows.fnEscapePathRow.laid ((laidWorld os).forCall (fun _ _ => 0) ⟨#[], args, []⟩).memory :=
 ((((((pieceA os args).append (pieceB os args) (by kernel_rfl)).append (pieceC os args) (by kernel_rfl)).append (pieceD os args) (by kernel_rfl)).append (pieceE os args) (by kernel_rfl)).append (pieceF os args) (by kernel_rfl)).met
end Cl
end Go.Proofs.YtclmjmfcggkpaaaGreatDoor
set_option linter.unusedVariables false
namespace Go.Proofs.YtclmjmfcggkpaaaGreatDoor
open Go.RowKit
namespace H
/-- An operation that yields its value in every world of S: taken. -/
theorem tk {P : Program} {md : Region.Mode} {ops : Array Oper} {Q : Exit → Act → World → Prop} {S : World → Prop} (i : Nat) {oi : Oper} {v : Value} {fuel : Nat} {listed : Array Bool} {a a' : Act} {w : World}
    (h : wpAnyH P md ops Q S fuel (listed.setIfInBounds i true) a' w) (hi : ops[i]? = some oi := by rfl)
    (hs : Region.noSelect ops = true := by kernel_rfl) (hf : Region.free md ops listed i = true := by kernel_rfl) (hr : (Region.ready md ops listed).contains i = true := by kernel_rfl)
    (hg : Region.wanted oi (yielded ops a.tmps) = true := by rfl)
    (hy : ∀ w, S w → (execOp a.eval oi).run P w = .ok (.value v) w := by intro w hSw; (try dsimp only at hSw); first | (go_simp; done) | (go_simp; with_reducible rfl))
    (ha : a.put oi.dst v = a' := by (try simp only [Act.put, List.getElem_toArray, List.getElem_cons_zero, List.getElem_cons_succ, List.setIfInBounds_toArray, List.set_cons_zero, List.set_cons_succ]); with_reducible rfl) (hS : S w := by assumption)
    (hQ : ∀ c a w, Q (.panic c) (a.put oi.dst v) w → Q (.panic c) a w := by exact fun _ _ _ h => h) : wpAnyH P md ops Q S (fuel + 1) listed a w := by
  subst ha
  exact wpAnyH_take hi hs hf hr hQ (.inl ⟨hg, hy⟩) hS h
/-- One that is not wanted. -/
theorem tku {P : Program} {md : Region.Mode} {ops : Array Oper} {Q : Exit → Act → World → Prop} {S : World → Prop} (i : Nat) {oi : Oper} {fuel : Nat} {listed : Array Bool} {a a' : Act} {w : World}
    (h : wpAnyH P md ops Q S fuel (listed.setIfInBounds i true) a' w) (hi : ops[i]? = some oi := by rfl)
    (hs : Region.noSelect ops = true := by kernel_rfl) (hf : Region.free md ops listed i = true := by kernel_rfl) (hr : (Region.ready md ops listed).contains i = true := by kernel_rfl)
    (hg : Region.wanted oi (yielded ops a.tmps) = false := by rfl)
    (ha : a.put oi.dst undef = a' := by (try simp only [Act.put, List.getElem_toArray, List.getElem_cons_zero, List.getElem_cons_succ, List.setIfInBounds_toArray, List.set_cons_zero, List.set_cons_succ]); with_reducible rfl) (hS : S w := by assumption)
    (hQ : ∀ c a w, Q (.panic c) (a.put oi.dst undef) w → Q (.panic c) a w := by exact fun _ _ _ h => h) : wpAnyH P md ops Q S (fuel + 1) listed a w := by
  subst ha
  exact wpAnyH_take hi hs hf hr hQ (.inr ⟨hg, rfl⟩) hS h
/-- Only one operation may come up. -/
theorem rd1 {P : Program} {md : Region.Mode} {ops : Array Oper} {Q : Exit → Act → World → Prop} {S : World → Prop} (i : Nat) {o : Oper} {fuel : Nat} {listed : Array Bool} {a : Act} {w : World}
    (h : ∀ K' : Act → World → Prop, Shut (∀ a w, S w → (S w → wpAnyH P md ops Q S fuel (listed.setIfInBounds i true) a w) → K' a w) → if Region.wanted o (yielded ops a.tmps) = true then Oper.wp P o a w K' Q else K' (a.put o.dst undef) w)
    (ho : ops[i]? = some o := by rfl) (hr : Region.ready md ops listed = [i] := by kernel_rfl) : wpAnyH P md ops Q S (fuel + 1) listed a w :=
  wpAnyH_ready hr (by simp) (AllReadyH.cons ho h AllReadyH.nil)
end H
end Go.Proofs.YtclmjmfcggkpaaaGreatDoor
