import Derived.Test.YtkihaebaccdjdaaGreatDoorCards
import Derived.Test.YtkihaebaccdjdaaGreatDoorTie
import Derived.Test.YtkihaebaccdjdaaGreatDoorJ16
import Derived.Test.YtkihaebaccdjdaaGreatDoorJ6
import Derived.Lib.LaidU8
import Derived.WalkKit
import Derived.ProofKit
import Derived.OpenShut
import Derived.OpenVars
import Derived.Deep.DeepHandedRow
import Derived.Deep.DeepWitnessRowRef
import Derived.Deep.DeepLaidRun
import Derived.Lib.LaidTab
import Derived.Lib.LaidIn
import Derived.Stop.LaidErr
import Derived.MakeChecks
import Derived.Test.YtkihaebaccdjdaaGreatDoorJ9
namespace Go.Proofs.YtkihaebaccdjdaaGreatDoor
open Go.ChangeShapes Go.WideShapes Go.ChangeAt Go.RowKit
namespace Cl
theorem own : ownKnob Tryz.prog.godebug = none := by kernel_rfl
theorem laidOut : laidOutB Tryz.prog = true := by kernel_rfl
theorem gTab : Tryz.prog.globalNamed "loop.example/pub-g01523/pub/neturl.table" = some 0 := by kernel_rfl
theorem gTabType : (Tryz.prog.globals[0]?).map (·.type) = some 262 := by kernel_rfl
theorem cells262 : Tryz.prog.cellsOf 262 = 256 := by kernel_rfl
theorem cells5 : Tryz.prog.cellsOf 5 = 1 := by kernel_rfl
theorem varsOk : varsRowed Tryz.prog ["loop.example/pub-g01523/pub/neturl.table"] = true := by kernel_rfl

/-- Every argument reads as it did. -/
theorem trodAll_below {H : Type} {enc : TypeId × Value → H} {P : Program} (hl : laidOutB P = true) {W W' : World} (hb : Below W.heap.size W W') :
 ∀ {ts : List TypeId} {vs : List Value} {ds : List (DataW H)} {ps : List MemPlace}, (ts.all fun t => P.readableRec t && decide (t < P.types.size)) = true → DataW.TrodAll enc P W 0 (fun _ => true) true ts vs ds ps →
  DataW.TrodAll enc P W' 0 (fun b => decide (b < W.heap.size)) true ts vs ds ps
 | [], vs, ds, ps, _, h => by
   cases vs <;> cases ds <;> simp_all [DataW.TrodAll]
 | t :: ts, vs, ds, ps, ht, h => by
   obtain ⟨v, vs', d, ds', p, q, rfl, rfl, rfl, h0, r⟩ := trodAll_cons h
   simp only [List.all_cons, Bool.and_eq_true, decide_eq_true_eq] at ht
   have hlt := h.lt
   exact trodAll_cons_mk (Below.trod hl ht.1.1 ht.1.2 h0 hb (fun x hx => hlt x (by simp [hx]))) (trodAll_below hl hb (by simpa using ht.2) r)
/-- What is owed at the end of a call that hands back true and turns nothing that was there. -/
theorem post_true {H : Type} {enc : TypeId × Value → H} {P : Program} (hl : laidOutB P = true) (hbool : P.underlying 4 = some .bool) {f : Func} {s : ChangeSpec} (hts : (f.params.toList.all fun t => P.readableRec t && decide (t < P.types.size)) = true) (hvr : varsRowed P s.vars = true)
 (hres : f.resultTypes = #[4]) {W W' : World} {args : Array Value} {ds gs : List (DataW H)} {before : List MemPlace} (hW : DataW.Whole enc P f.params.toList s.vars false W args.toList ds gs before) (hb : Below W.heap.size W W')
 (hs : s.fn H (ds ++ gs) = { results := [.lit (.bool true)], args := ds, vars := gs }) : s.post enc P f false true false false W args (.bool true) W' := by
 have hW' := hW
 obtain ⟨p, q, hA, hV, rfl, _, _⟩ := hW
 refine ⟨ds, gs, p ++ q, [], p, q, hW', ?_, ?_, ?_, hb.frame _, fun h => by cases h⟩
 ·rw [hs, hres]
  exact trodAll_cons_mk (shut_bool hbool _) trodAll_mk0
 ·rw [hs]; exact trodAll_below hl hb hts hA
 ·rw [hs]; exact Below.trodVars hl hb hvr hV
/-- The tables, off the row's list. -/
theorem laid_eq : (Rows.laid_loop_example_pub_g01523_pub_neturl_table : DataW Unit) = Lib.tabData .u8 H.tabL := by kernel_rfl
abbrev laidL : List (String × DataW Unit) := [("math/bits.deBruijn32tab", Rows.laid_math_bits_deBruijn32tab), ("math/bits.deBruijn64tab", Rows.laid_math_bits_deBruijn64tab), ("internal/strconv.uint64pow10", Rows.laid_internal_strconv_uint64pow10), ("unicode/utf8.acceptRanges", Rows.laid_unicode_utf8_acceptRanges), ("loop.example/pub-g01523/pub/neturl.table", Rows.laid_loop_example_pub_g01523_pub_neturl_table), ("unicode/utf8.first", Rows.laid_unicode_utf8_first)]
set_option maxRecDepth 1000000 in
theorem tab_of {W : World} (h : laidMet Tryz.prog laidL W) : H.Tab W := by
 have h := h.tail.tail.tail.tail
 rw [laid_eq] at h
 have h1 : Lib.TabIs Tryz.prog W "loop.example/pub-g01523/pub/neturl.table" .u8 H.tabL := Lib.tabIs_of_head gTab gTabType Tryz.underlying262 Tryz.underlying5 cells5 cells262 h
 have hlen : H.tabL.length = 256 := by kernel_rfl
 intro c hc
 have := h1.cell gTab c (by rw [hlen]; exact hc)
 rw [this]
 simp only [H.tab, List.getD_eq_getElem?_getD, List.getElem?_eq_getElem (show c < H.tabL.length by rw [hlen]; exact hc), Option.getD_some]
theorem u8x : U8Extra Tryz.prog Tryz.lays260_ren := { n3 := by kernel_rfl, n4 := by kernel_rfl, y3 := by kernel_rfl, y4 := by kernel_rfl, c5 := by kernel_rfl, c119 := by kernel_rfl, c138 := by kernel_rfl }
theorem first_eq : (Rows.laid_unicode_utf8_first : DataW Unit) = Lib.firstData := by kernel_rfl
theorem accept_eq : (Rows.laid_unicode_utf8_acceptRanges : DataW Unit) = Lib.acceptData := by kernel_rfl
theorem u8_of {W : World} (h : laidMet Tryz.prog laidL W) : Lib.Utf8Tabs 2 3 W := by
 have h3 := Lib.laidMet.reads h (n := "unicode/utf8.first") (d := Rows.laid_unicode_utf8_first) (by simp)
 have h4 := Lib.laidMet.reads h (n := "unicode/utf8.acceptRanges") (d := Rows.laid_unicode_utf8_acceptRanges) (by simp)
 rw [first_eq] at h3
 rw [accept_eq] at h4
 exact utf8Tabs_of_reads Tryz.lays260 u8x h3 h4
theorem four_of {W : World} (h : Lib.Utf8Tabs 2 3 W) : 4 ≤ W.heap.size := World.block_lt_of_cell? W _ (h.2 0 (by omega)).1
def lits1 : DataW Unit → List Value
 | .lit (.int k n) => [.int k n]
 | _ => []
def lits2 : DataW Unit → List Value
 | .agg xs => xs.flatMap lits1
 | d => lits1 d
def lits3 : DataW Unit → List Value
 | .agg xs => xs.flatMap lits2
 | d => lits2 d
noncomputable def laidWorld (os : Os) : World :=
 let w0 := World.holding Tryz.prog os ⟨#[], #[], []⟩
 let put (h : Array Obj) (g : Nat) (cs : Array Value) : Array Obj := h.modify g fun
  | .cells _ t frozen => .cells cs t frozen
  | o => o
 let h0 := put w0.heap 0 (lits3 Rows.laid_loop_example_pub_g01523_pub_neturl_table).toArray
 let h1 := put h0 1 (lits3 Rows.laid_internal_strconv_uint64pow10).toArray
 let h2 := put h1 2 (lits3 Rows.laid_unicode_utf8_first).toArray
 let h3 := put h2 3 (lits3 Rows.laid_unicode_utf8_acceptRanges).toArray
 let h4 := put h3 4 (lits3 Rows.laid_math_bits_deBruijn32tab).toArray
 let h5 := put h4 5 (lits3 Rows.laid_math_bits_deBruijn64tab).toArray
 { w0 with heap := h5 }
set_option maxRecDepth 1000000 in
theorem pieceA (os : Os) (args : Array Value) : LaidIn Tryz.prog ((laidWorld os).forCall (fun _ _ => 0) ⟨#[], args, []⟩).memory [("math/bits.deBruijn32tab", Rows.laid_math_bits_deBruijn32tab), ("math/bits.deBruijn64tab", Rows.laid_math_bits_deBruijn64tab), ("internal/strconv.uint64pow10", Rows.laid_internal_strconv_uint64pow10), ("unicode/utf8.acceptRanges", Rows.laid_unicode_utf8_acceptRanges)] [4, 5, 1, 3] :=
 LaidIn.of_run [4, 5, 1, 3] 8 (by kernel_rfl) (by kernel_rfl) (by kernel_rfl) (by kernel_rfl)
set_option maxRecDepth 1000000 in
theorem pieceE (os : Os) (args : Array Value) : LaidIn Tryz.prog ((laidWorld os).forCall (fun _ _ => 0) ⟨#[], args, []⟩).memory [("loop.example/pub-g01523/pub/neturl.table", Rows.laid_loop_example_pub_g01523_pub_neturl_table)] [0] :=
 LaidIn.of_run [0] 8 (by kernel_rfl) (by kernel_rfl) (by kernel_rfl) (by kernel_rfl)
set_option maxRecDepth 1000000 in
theorem pieceF (os : Os) (args : Array Value) : LaidIn Tryz.prog ((laidWorld os).forCall (fun _ _ => 0) ⟨#[], args, []⟩).memory [("unicode/utf8.first", Rows.laid_unicode_utf8_first)] [2] :=
 LaidIn.of_run [2] 8 (by kernel_rfl) (by kernel_rfl) (by kernel_rfl) (by kernel_rfl)
set_option maxRecDepth 1000000 in
theorem laid_met (os : Os) (args : Array Value) : laidMet Tryz.prog laidL ((laidWorld os).forCall (fun _ _ => 0) ⟨#[], args, []⟩).memory :=
 (((pieceA os args).append (pieceE os args) (by kernel_rfl)).append (pieceF os args) (by kernel_rfl)).met
end Cl
end Go.Proofs.YtkihaebaccdjdaaGreatDoor
set_option linter.unusedVariables false
set_option linter.unusedSimpArgs false
namespace Go.Proofs.YtkihaebaccdjdaaGreatDoor
namespace H
/-! ### What the encoder of JSON writes for a text is UTF-8, and reads back -/
/-- What stands for a sign. -/
def escR (x : Int) : List Int := if x < 128 then (if safeC x then [x] else escB x) else if x = 8232 ∨ x = 8233 then [92, 117, 50, 48, 50, hexD (x % 16)] else utf8E x
theorem esc_sign (x : Int) (h : okR x) (rest : List Int) (k : Nat) : esc decL (k + 1) (utf8E x ++ rest) = escR x ++ esc decL k rest := by
 have hd := decL_utf8E x rest h
 have hp := utf8E_pos x
 by_cases h1 : x < 128
 ·have e : utf8E x = [x] := by unfold utf8E; rw [if_pos h1]
  rw [e]
  unfold escR
  simp only [List.cons_append, List.nil_append, esc, if_pos h1]
  split <;> simp
 ·have hh := utf8E_high x h (by omega)
  obtain ⟨c, t, hu⟩ : ∃ c t, utf8E x = c :: t := by
   cases hq : utf8E x with
   | nil => rw [hq] at hp; simp at hp
   | cons c t => exact ⟨c, t, rfl⟩
  have hc := hh c (by rw [hu]; simp)
  have hn1 : ¬ ((c :: t).length = 1) := by
   rw [← hu]
   unfold utf8E
   rw [if_neg h1]
   repeat' split
   all_goals simp
  rw [hu, List.cons_append] at hd
  rw [hu, List.cons_append, esc, if_neg (by omega), hd]
  simp only
  rw [if_neg (by rintro ⟨_, e⟩; exact hn1 e)]
  unfold escR
  rw [if_neg h1]
  have e1 : (c :: (t ++ rest)).drop (c :: t).length = rest := by rw [← List.cons_append, List.drop_left]
  have e2 : (c :: (t ++ rest)).take (c :: t).length = c :: t := by rw [← List.cons_append, List.take_left]
  rw [e1, e2]
  split <;> simp [hu]
theorem esc_signs (xs : List Int) (h : ∀ x ∈ xs, okR x) : ∀ k, (xs.flatMap utf8E).length ≤ k → esc decL k (xs.flatMap utf8E) = xs.flatMap escR := by
 induction xs with
 | nil => intro k _; exact esc_nil _ _
 | cons x xs ih =>
   intro k hk
   have hp := utf8E_pos x
   rw [List.flatMap_cons] at hk ⊢
   rw [List.length_append] at hk
   obtain ⟨k', rfl⟩ : ∃ k', k = k' + 1 := ⟨k - 1, by omega⟩
   rw [esc_sign x (h x (by simp)), ih (fun y hy => h y (by simp [hy])) k' (by omega), List.flatMap_cons]
theorem hexD_rng (d : Int) (h0 : 0 ≤ d) (h1 : d < 16) : 48 ≤ hexD d ∧ hexD d < 128 := by unfold hexD; split <;> omega
theorem escB_ascii (x : Int) (h0 : 0 ≤ x) (h1 : x < 128) : ∀ y ∈ escB x, 0 ≤ y ∧ y < 128 := by
 intro y hy
 unfold escB at hy
 have a := hexD_rng (x / 16) (by omega) (by omega)
 have b := hexD_rng (x % 16) (by omega) (by omega)
 repeat' split at hy
 all_goals
  simp only [List.mem_cons, List.not_mem_nil, or_false] at hy
  omega
theorem escR_U8 (x : Int) (h : okR x) : U8 (fun _ => true) (escR x) := by
 unfold escR
 split
 ·split
  ·exact U8.ascii (fun y hy => by simp at hy; subst hy; exact ⟨h.1, by omega, rfl⟩)
  ·exact U8.ascii (fun y hy => by have := escB_ascii x h.1 (by omega) y hy; exact ⟨this.1, this.2, rfl⟩)
 ·split
  ·refine U8.ascii (fun y hy => ?_)
   have a := hexD_rng (x % 16) (by omega) (by omega)
   simp only [List.mem_cons, List.not_mem_nil, or_false] at hy
   exact ⟨by omega, by omega, rfl⟩
  ·exact ⟨[x], by simp [h], by simp⟩
theorem escRs_U8 (xs : List Int) (h : ∀ x ∈ xs, okR x) : U8 (fun _ => true) (xs.flatMap escR) := by
 induction xs with
 | nil => exact U8.nil _
 | cons x xs ih => rw [List.flatMap_cons]; exact (escR_U8 x (h x (by simp))).app (ih (fun y hy => h y (by simp [hy])))
/-- What stands behind a backslash, where it is one that the encoder writes. -/
inductive Esc1 : List Int → List Int → Prop
 | self (c : Int) (h : c = 34 ∨ c = 92) : Esc1 [c] [c]
 | n : Esc1 [110] [10]
 | r : Esc1 [114] [13]
 | t : Esc1 [116] [9]
 | u (a b c d : Int) (h0 : 0 ≤ a ∧ a < 16) (h1 : 0 ≤ b ∧ b < 16) (h2 : 0 ≤ c ∧ c < 16) (h3 : 0 ≤ d ∧ d < 16) (x : Int) (hx : x = ((a * 16 + b) * 16 + c) * 16 + d) (hs : x < 55296) : Esc1 [117, hexD a, hexD b, hexD c, hexD d] (utf8E x)
/-- A string of JSON, up to its end. -/
inductive Read1 : List Int → List Int → Prop
 | nil : Read1 [] []
 | plain (c : Int) (h : 32 ≤ c ∧ c < 256 ∧ c ≠ 34 ∧ c ≠ 92) {a b : List Int} (k : Read1 a b) : Read1 (c :: a) (c :: b)
 | esc {y z : List Int} (h : Esc1 y z) {a b : List Int} (k : Read1 a b) : Read1 (92 :: (y ++ a)) (z ++ b)
theorem Read1.plains {a b : List Int} (k : Read1 a b) : ∀ l : List Int, (∀ c ∈ l, 32 ≤ c ∧ c < 256 ∧ c ≠ 34 ∧ c ≠ 92) → Read1 (l ++ a) (l ++ b)
 | [], _ => k
 | c :: l, h => .plain c (h c (by simp)) (k.plains l (fun d hd => h d (by simp [hd])))
theorem escR_read (x : Int) (h : okR x) {a b : List Int} (k : Read1 a b) : Read1 (escR x ++ a) (utf8E x ++ b) := by
 obtain ⟨h0, h1, h2⟩ := h
 unfold escR
 split
 ·rename_i hx
  have e : utf8E x = [x] := by unfold utf8E; rw [if_pos hx]
  split
  ·rename_i hs
   obtain ⟨q1, q2, q3⟩ := hs
   rw [e]
   exact .plain x ⟨q1, by omega, q2, q3⟩ k
  ·unfold escB
   split
   ·rename_i hq
    rw [e]
    exact .esc (.self x (by omega)) k
   ·split
    ·rename_i hq; subst hq; rw [e]; exact .esc .n k
    ·split
     ·rename_i hq; subst hq; rw [e]; exact .esc .r k
     ·split
      ·rename_i hq; subst hq; rw [e]; exact .esc .t k
      ·have := Esc1.u 0 0 (x / 16) (x % 16) (by omega) (by omega) (by omega) (by omega) x (by omega) (by omega)
       have e0 : hexD 0 = 48 := rfl
       rw [e0] at this
       exact .esc this k
 ·split
  ·rename_i hx hq
   have := Esc1.u 2 0 2 (x % 16) (by omega) (by omega) (by omega) (by omega) x (by omega) (by omega)
   have e0 : hexD 2 = 50 := rfl
   have e1 : hexD 0 = 48 := rfl
   rw [e0, e1] at this
   exact .esc this k
  ·rename_i hx _
   refine k.plains _ (fun c hc => ?_)
   have a := utf8E_high x ⟨h0, h1, h2⟩ (by omega) c hc
   have b := utf8E_rng x ⟨h0, h1, h2⟩ c hc
   omega
theorem escRs_read (xs : List Int) (h : ∀ x ∈ xs, okR x) : Read1 (xs.flatMap escR) (xs.flatMap utf8E) := by
 induction xs with
 | nil => exact .nil
 | cons x xs ih => rw [List.flatMap_cons, List.flatMap_cons]; exact escR_read x (h x (by simp)) (ih (fun y hy => h y (by simp [hy])))
/-- What the encoder writes for a text in UTF-8. -/
theorem esc_good {l : List Int} (h : U8 (fun _ => true) l) (k : Nat) (hk : l.length ≤ k) : U8 (fun _ => true) (esc decL k l) ∧ Read1 (esc decL k l) l := by
 obtain ⟨xs, h1, rfl⟩ := h
 rw [esc_signs xs (fun x hx => (h1 x hx).1) k hk]
 exact ⟨escRs_U8 xs (fun x hx => (h1 x hx).1), escRs_read xs (fun x hx => (h1 x hx).1)⟩
end H
end Go.Proofs.YtkihaebaccdjdaaGreatDoor
