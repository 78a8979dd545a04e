import Derived.Test.YtclmjmfcggkpaaaGreatDoorU7
import Derived.Test.YtclmjmfcggkpaaaGreatDoorCards
import Derived.Test.YtclmjmfcggkpaaaGreatDoorTie
import Derived.WalkKit
import Derived.ProofKit
import Derived.OpenShut
import Derived.OpenVars
import Derived.Deep.DeepHandedRow
import Derived.Deep.DeepWitnessRowRef
import Derived.Deep.DeepLaidRun
import Derived.Lib.LaidTab
import Derived.Lib.LaidIn
import Derived.Stop.LaidErr
import Derived.MakeChecks
namespace Go.Proofs.YtclmjmfcggkpaaaGreatDoor
open Go.RowKit Go.Proofs.YtclmjmfcggkpaaaGreatDoorW.PrintWords Go.Proofs.YtclmjmfcggkpaaaGreatDoorW.PrintLast Go.Proofs.YtclmjmfcggkpaaaGreatDoorW.PrintMore
namespace H
/-! ### The table of package net/url -/
def tabL : List Int := [0, 0, 0, 0, 0, 0, 0, 0, 0, 0, 0, 0, 0, 0, 0, 0, 0, 0, 0, 0, 0, 0, 0, 0, 0, 0, 0, 0, 0, 0, 0, 0, 0, 76, 12, 0, 95, 0, 95, 12, 76, 76, 76, 95, 93, 127, 127, 65, 255, 255, 255, 255, 255, 255, 255, 255, 255, 255, 79, 93, 12, 95, 12, 64, 67, 255, 255, 255, 255, 255, 255, 127, 127, 127, 127, 127, 127, 127, 127, 127, 127, 127, 127, 127, 127, 127, 127, 127, 127, 127, 127, 12, 0, 12, 0, 127, 0, 255, 255, 255, 255, 255, 255, 127, 127, 127, 127, 127, 127, 127, 127, 127, 127, 127, 127, 127, 127, 127, 127, 127, 127, 127, 127, 0, 0, 0, 127, 0, 0, 0, 0, 0, 0, 0, 0, 0, 0, 0, 0, 0, 0, 0, 0, 0, 0, 0, 0, 0, 0, 0, 0, 0, 0, 0, 0, 0, 0, 0, 0, 0, 0, 0, 0, 0, 0, 0, 0, 0, 0, 0, 0, 0, 0, 0, 0, 0, 0, 0, 0, 0, 0, 0, 0, 0, 0, 0, 0, 0, 0, 0, 0, 0, 0, 0, 0, 0, 0, 0, 0, 0, 0, 0, 0, 0, 0, 0, 0, 0, 0, 0, 0, 0, 0, 0, 0, 0, 0, 0, 0, 0, 0, 0, 0, 0, 0, 0, 0, 0, 0, 0, 0, 0, 0, 0, 0, 0, 0, 0, 0, 0, 0, 0, 0, 0, 0, 0, 0, 0, 0, 0, 0, 0, 0, 0, 0, 0]
def tab (c : Nat) : Int := tabL.getD c 0
/-- The table's cells are laid in the world. -/
def Tab (w : World) : Prop := ∀ c : Nat, c < 256 → w.cell? ⟨1, c, none⟩ = some (.int .u8 (tab c))
theorem Tab.lt {w : World} (h : Tab w) : 1 < w.heap.size := World.block_lt_of_cell? w _ (h 0 (by omega))
theorem Tab.below {w w1 : World} (h : Tab w) {B : Nat} (hb : Below B w w1) (hB : 1 < B) : Tab w1 := fun c hc => by rw [hb.cell (p := ⟨1, c, none⟩) hB]; exact h c hc
theorem Tab.fr {S : Nat → Prop} {w w1 : World} (h : Tab w) (hb : Fr S w w1) (hB : ¬ S 1) : Tab w1 := fun c hc => by
 rw [World.cell?_of_block (w := w) (hb.block 1 h.lt hB)]; exact h c hc
set_option maxRecDepth 100000 in
theorem tab_range (c : Nat) : 0 ≤ tab c ∧ tab c ≤ 255 := by
 have h : ∀ c : Nat, c < 256 → 0 ≤ tab c ∧ tab c ≤ 255 := by decide +kernel
 by_cases hc : c < 256
 ·exact h c hc
 ·have : tab c = 0 := by unfold tab; rw [List.getD_eq_getElem?_getD, List.getElem?_eq_none (by rw [show tabL.length = 256 from by decide]; omega)]; rfl
  omega
/-- What must be escaped, by mode. -/
def should (c : Int) (m : Int) : Bool := Go.bits .and .u8 (tab c.toNat) m == 0
def hexB (c : Int) : Bool := Go.bits .and .u8 (tab c.toNat) 128 != 0
set_option maxHeartbeats 400000 in
set_option maxRecDepth 100000 in
theorem should_call (c m : Int) (w : World) (hT : Tab w) (h0 : 0 ≤ c) (h1 : c ≤ 255) :
 Calls Tryz.prog 133 #[.int .u8 c, .int .u8 m] w fun e w' => e = .returned (.bool (should c m)) ∧ w = w' := by
 obtain ⟨n, rfl⟩ := Int.eq_ofNat_of_zero_le h0
 have hc := hT n (by omega)
 have hr := tab_range n
 clear hT
 go_enter Tryz.func133, Tryz.ntmps133
 go_wp2
 go_ret
 exact ⟨rfl, rfl⟩
set_option maxHeartbeats 400000 in
set_option maxRecDepth 100000 in
theorem ishex_call (c : Int) (w : World) (hT : Tab w) (h0 : 0 ≤ c) (h1 : c ≤ 255) :
 Calls Tryz.prog 134 #[.int .u8 c] w fun e w' => e = .returned (.bool (hexB c)) ∧ w = w' := by
 obtain ⟨n, rfl⟩ := Int.eq_ofNat_of_zero_le h0
 have hc := hT n (by omega)
 have hr := tab_range n
 clear hT
 go_enter Tryz.func134, Tryz.ntmps134
 go_wp2
 go_ret
 exact ⟨rfl, rfl⟩
/-- What may stand in a path that is told escaped. -/
def pathOk (c : Int) : Bool := unres c || c == 47 || c == 37
theorem pathOk_should (c : Int) (h0 : 0 ≤ c) (h1 : c ≤ 255) (h : pathOk c = true) (hp : c ≠ 37) : should c 1 = false := by
 have : ∀ n : Nat, n < 256 → pathOk (n : Int) = true → (n : Int) ≠ 37 → should (n : Int) 1 = false := by decide +kernel
 obtain ⟨n, rfl⟩ := Int.eq_ofNat_of_zero_le h0
 exact this n (by omega) h hp
set_option maxHeartbeats 1000000 in
set_option maxRecDepth 100000 in
theorem validEnc_call (s : ByteArray) (w : World) (hT : Tab w) (hs : s.size ≤ 140737488355328) (hok : ∀ c ∈ bytesOf s, pathOk c = true) :
 Calls Tryz.prog 85 #[.string s, .int .u8 1] w fun e w' => e = .returned (.bool true) ∧ w = w' := by
 replace hT := Aside0.mk hT
 replace hok := Aside0.mk hok
 go_enter Tryz.func85, Tryz.ntmps85
 go_wp2_with fail
 go_loop [5] (fun v5 => ∃ k : Nat, k ≤ s.size ∧ v5 = .int .i64 k) (fun v5 => s.size - (intOf v5).toNat)
 case atStart => exact ⟨0, Nat.zero_le _, rfl⟩
 case round =>
  obtain ⟨k, hk, rfl⟩ := hrel
  by_cases hlt : k < s.size
  ·have hx : bt s k = ((s[k]'hlt).toNat : Int) := by simp [bt, hlt]
   have hr := bt_range s (k : Int)
   have hm : pathOk (bt s k) = true := hok.out _ (by
    rw [← rd_bytesOf, rd, Int.toNat_natCast, List.getD_eq_getElem?_getD, List.getElem?_eq_getElem (by rw [bytesOf_length]; exact hlt)]
    exact List.getElem_mem _)
   rw [hx] at hr hm
   clear hx
   have hsh : ((s[k]'hlt).toNat : Int) ≠ 37 → should ((s[k]'hlt).toNat : Int) 1 = false := pathOk_should _ hr.1 hr.2 hm
   clear hm
   by_cases h37 : ((s[k]'hlt).toNat : Int) = 37
   ·clear hsh
    go_wp2
    go_round
    case rel => exact ⟨k + 1, by omega, by go_num⟩
    case measure => simp [intOf]; omega
   ·replace hsh := Aside0.mk (hsh h37)
    go_wp2_with (go_at_call 133; refine (should_call ((s[k]'hlt).toNat : Int) 1 _ hT.out hr.1 hr.2).mono ?_; rw [hsh.out]; rintro e w' ⟨rfl, rfl⟩)
    all_goals
     go_round
     case rel => exact ⟨k + 1, by omega, by go_num⟩
     case measure => simp [intOf]; omega
  ·go_wp2
   go_ret
   exact ⟨rfl, rfl⟩
end H
end Go.Proofs.YtclmjmfcggkpaaaGreatDoor
namespace Go.Proofs.YtclmjmfcggkpaaaGreatDoor
open Go.ChangeShapes Go.WideShapes Go.ChangeAt Go.RowKit
namespace Cl
theorem own : ownKnob Tryz.prog.godebug = none := by kernel_rfl
theorem laidOut : laidOutB Tryz.prog = true := by kernel_rfl
theorem gTab : Tryz.prog.globalNamed "loop.example/pub-g01523/pub/neturl.table" = some 1 := by kernel_rfl
theorem gTabType : (Tryz.prog.globals[1]?).map (·.type) = some 198 := by kernel_rfl
theorem cells198 : Tryz.prog.cellsOf 198 = 256 := by kernel_rfl
theorem cells5 : Tryz.prog.cellsOf 5 = 1 := by kernel_rfl
theorem varsOk : varsRowed Tryz.prog ["loop.example/pub-g01523/pub/neturl.table"] = true := by kernel_rfl

/-- Every argument reads as it did. -/
theorem trodAll_below {H : Type} {enc : TypeId × Value → H} {P : Program} (hl : laidOutB P = true) {W W' : World} (hb : Below W.heap.size W W') :
 ∀ {ts : List TypeId} {vs : List Value} {ds : List (DataW H)} {ps : List MemPlace}, (ts.all fun t => P.readableRec t && decide (t < P.types.size)) = true → DataW.TrodAll enc P W 0 (fun _ => true) true ts vs ds ps →
  DataW.TrodAll enc P W' 0 (fun b => decide (b < W.heap.size)) true ts vs ds ps
 | [], vs, ds, ps, _, h => by
   cases vs <;> cases ds <;> simp_all [DataW.TrodAll]
 | t :: ts, vs, ds, ps, ht, h => by
   obtain ⟨v, vs', d, ds', p, q, rfl, rfl, rfl, h0, r⟩ := trodAll_cons h
   simp only [List.all_cons, Bool.and_eq_true, decide_eq_true_eq] at ht
   have hlt := h.lt
   exact trodAll_cons_mk (Below.trod hl ht.1.1 ht.1.2 h0 hb (fun x hx => hlt x (by simp [hx]))) (trodAll_below hl hb (by simpa using ht.2) r)
/-- What is owed at the end of a call that hands back true and turns nothing that was there. -/
theorem post_true {H : Type} {enc : TypeId × Value → H} {P : Program} (hl : laidOutB P = true) (hbool : P.underlying 4 = some .bool) {f : Func} {s : ChangeSpec} (hts : (f.params.toList.all fun t => P.readableRec t && decide (t < P.types.size)) = true) (hvr : varsRowed P s.vars = true)
 (hres : f.resultTypes = #[4]) {W W' : World} {args : Array Value} {ds gs : List (DataW H)} {before : List MemPlace} (hW : DataW.Whole enc P f.params.toList s.vars false W args.toList ds gs before) (hb : Below W.heap.size W W')
 (hs : s.fn H (ds ++ gs) = { results := [.lit (.bool true)], args := ds, vars := gs }) : s.post enc P f false true false false W args (.bool true) W' := by
 have hW' := hW
 obtain ⟨p, q, hA, hV, rfl, _, _⟩ := hW
 refine ⟨ds, gs, p ++ q, [], p, q, hW', ?_, ?_, ?_, hb.frame _, fun h => by cases h⟩
 ·rw [hs, hres]
  exact trodAll_cons_mk (shut_bool hbool _) trodAll_mk0
 ·rw [hs]; exact trodAll_below hl hb hts hA
 ·rw [hs]; exact Below.trodVars hl hb hvr hV
/-- The table of net/url, off the row's list. -/
theorem laid_eq : (Rows.laid_loop_example_pub_g01523_pub_neturl_table : DataW Unit) = Lib.tabData .u8 H.tabL := by kernel_rfl
set_option maxRecDepth 1000000 in
theorem tab_of {W : World} (h : laidMet Tryz.prog [("loop.example/pub-g01523/pub/neturl.table", Rows.laid_loop_example_pub_g01523_pub_neturl_table), ("unicode/utf8.first", Rows.laid_unicode_utf8_first)] W) : H.Tab W := by
 rw [laid_eq] at h
 have h1 : Lib.TabIs Tryz.prog W "loop.example/pub-g01523/pub/neturl.table" .u8 H.tabL := Lib.tabIs_of_head (rest := [("unicode/utf8.first", Rows.laid_unicode_utf8_first)]) gTab gTabType Tryz.underlying198 Tryz.underlying5 cells5 cells198 h
 have hlen : H.tabL.length = 256 := by kernel_rfl
 intro c hc
 have := h1.cell gTab c (by rw [hlen]; exact hc)
 rw [this]
 simp only [H.tab, List.getD_eq_getElem?_getD, List.getElem?_eq_getElem (show c < H.tabL.length by rw [hlen]; exact hc), Option.getD_some]
def lits1 : DataW Unit → List Value
 | .lit (.int k n) => [.int k n]
 | _ => []
def lits2 : DataW Unit → List Value
 | .agg xs => xs.flatMap lits1
 | d => lits1 d
def lits3 : DataW Unit → List Value
 | .agg xs => xs.flatMap lits2
 | d => lits2 d
noncomputable def laidWorld (os : Os) : World :=
 let N := (World.settled Tryz.prog os).heap.size
 let w0 := World.holding Tryz.prog os ⟨#[
  .cells #[.string ⟨#[118, 97, 108, 117, 101, 32, 111, 117, 116, 32, 111, 102, 32, 114, 97, 110, 103, 101]⟩] 229,
  .cells #[.string ⟨#[105, 110, 118, 97, 108, 105, 100, 32, 115, 121, 110, 116, 97, 120]⟩] 229,
  .cells #[.int .u16 9, .int .u16 13, .int .u16 1, .int .u16 32, .int .u16 133, .int .u16 101, .int .u16 160, .int .u16 5760, .int .u16 5600, .int .u16 8192, .int .u16 8202, .int .u16 1, .int .u16 8232, .int .u16 8233, .int .u16 1, .int .u16 8239, .int .u16 8287, .int .u16 48, .int .u16 12288, .int .u16 12288, .int .u16 1] 241,
  .cells #[.slice (some ⟨N + 2, 0, none⟩) 7 7, .slice none 0 0, .int .i64 2] 238], #[], []⟩
 let put (h : Array Obj) (g : Nat) (cs : Array Value) : Array Obj := h.modify g fun
  | .cells _ t frozen => .cells cs t frozen
  | o => o
 let h0 := put w0.heap 0 (lits3 Rows.laid_strings_asciiSpace).toArray
 let h1 := put h0 1 (lits3 Rows.laid_loop_example_pub_g01523_pub_neturl_table).toArray
 let h2 := put h1 2 #[.pointer (some ⟨N + 3, 0, none⟩)]
 let h3 := put h2 3 #[.iface 227 (.pointer (some ⟨N + 1, 0, none⟩))]
 let h4 := put h3 4 #[.iface 227 (.pointer (some ⟨N, 0, none⟩))]
 let h6 := put h4 6 (lits3 Rows.laid_internal_strconv_uint64pow10).toArray
 let h7 := put h6 7 (lits3 Rows.laid_unicode_utf8_first).toArray
 let h8 := put h7 8 (lits3 Rows.laid_unicode_utf8_acceptRanges).toArray
 let h9 := put h8 9 (lits3 Rows.laid_math_bits_deBruijn32tab).toArray
 let h10 := put h9 10 (lits3 Rows.laid_math_bits_deBruijn64tab).toArray
 { w0 with heap := h10 }
noncomputable abbrev N0 : Nat := (World.settled Tryz.prog default).heap.size
set_option maxRecDepth 1000000 in
theorem pieceA (os : Os) (args : Array Value) : LaidIn Tryz.prog ((laidWorld os).forCall (fun _ _ => 0) ⟨#[], args, []⟩).memory [("math/bits.deBruijn32tab", Rows.laid_math_bits_deBruijn32tab), ("math/bits.deBruijn64tab", Rows.laid_math_bits_deBruijn64tab), ("internal/strconv.uint64pow10", Rows.laid_internal_strconv_uint64pow10), ("unicode/utf8.acceptRanges", Rows.laid_unicode_utf8_acceptRanges)] [9, 10, 6, 8] :=
 LaidIn.of_run [9, 10, 6, 8] 8 (by kernel_rfl) (by kernel_rfl) (by kernel_rfl) (by kernel_rfl)
set_option maxRecDepth 1000000 in
theorem pieceB (os : Os) (args : Array Value) : LaidIn Tryz.prog ((laidWorld os).forCall (fun _ _ => 0) ⟨#[], args, []⟩).memory [("strconv.ErrRange", Rows.laid_strconv_ErrRange), ("strconv.ErrSyntax", Rows.laid_strconv_ErrSyntax)] [4, N0, 3, N0 + 1] :=
 LaidIn.of_run [4, N0, 3, N0 + 1] 8 (by kernel_rfl) (by kernel_rfl) (by kernel_rfl) (by kernel_rfl)
set_option maxRecDepth 1000000 in
theorem pieceC (os : Os) (args : Array Value) : LaidIn Tryz.prog ((laidWorld os).forCall (fun _ _ => 0) ⟨#[], args, []⟩).memory [("unicode.White_Space", Rows.laid_unicode_White_Space)] [2, N0 + 3, N0 + 2] :=
 LaidIn.of_run [2, N0 + 3, N0 + 2] 8 (by kernel_rfl) (by kernel_rfl) (by kernel_rfl) (by kernel_rfl)
set_option maxRecDepth 1000000 in
theorem pieceD (os : Os) (args : Array Value) : LaidIn Tryz.prog ((laidWorld os).forCall (fun _ _ => 0) ⟨#[], args, []⟩).memory [("strings.asciiSpace", Rows.laid_strings_asciiSpace)] [0] :=
 LaidIn.of_run [0] 8 (by kernel_rfl) (by kernel_rfl) (by kernel_rfl) (by kernel_rfl)
set_option maxRecDepth 1000000 in
theorem pieceE (os : Os) (args : Array Value) : LaidIn Tryz.prog ((laidWorld os).forCall (fun _ _ => 0) ⟨#[], args, []⟩).memory [("loop.example/pub-g01523/pub/neturl.table", Rows.laid_loop_example_pub_g01523_pub_neturl_table)] [1] :=
 LaidIn.of_run [1] 8 (by kernel_rfl) (by kernel_rfl) (by kernel_rfl) (by kernel_rfl)
set_option maxRecDepth 1000000 in
theorem pieceF (os : Os) (args : Array Value) : LaidIn Tryz.prog ((laidWorld os).forCall (fun _ _ => 0) ⟨#[], args, []⟩).memory [("unicode/utf8.first", Rows.laid_unicode_utf8_first)] [7] :=
 LaidIn.of_run [7] 8 (by kernel_rfl) (by kernel_rfl) (by kernel_rfl) (by kernel_rfl)
set_option maxRecDepth 1000000 in
theorem laid_met (os : Os) (args : Array Value) : laidMet Tryz.prog Rows.fnEscapePathRow.laid ((laidWorld os).forCall (fun _ _ => 0) ⟨#[], args, []⟩).memory :=
 ((((((pieceA os args).append (pieceB os args) (by kernel_rfl)).append (pieceC os args) (by kernel_rfl)).append (pieceD os args) (by kernel_rfl)).append (pieceE os args) (by kernel_rfl)).append (pieceF os args) (by kernel_rfl)).met
end Cl
end Go.Proofs.YtclmjmfcggkpaaaGreatDoor
