import Derived.Test.YtkihaebaccdjdaaGreatDoorX21
import Derived.Test.YtkihaebaccdjdaaGreatDoorX9
import Derived.Test.YtkihaebaccdjdaaGreatDoorCards
import Derived.Test.YtkihaebaccdjdaaGreatDoorTie
import Derived.Lib.LaidU8
import Derived.WalkKit
import Derived.ProofKit
import Derived.OpenShut
import Derived.OpenVars
import Derived.Deep.DeepHandedRow
import Derived.Deep.DeepWitnessRowRef
import Derived.Deep.DeepLaidRun
import Derived.Lib.LaidTab
import Derived.Lib.LaidIn
import Derived.Stop.LaidErr
import Derived.MakeChecks
set_option linter.unusedVariables false
set_option linter.unusedSimpArgs false
namespace Go.Proofs.YtkihaebaccdjdaaGreatDoor
open Go.RowKit Go.Proofs.YtkihaebaccdjdaaGreatDoorW.PrintWords Go.Proofs.YtkihaebaccdjdaaGreatDoorW.PrintLast Go.Proofs.YtkihaebaccdjdaaGreatDoorW.PrintMore
namespace H
/-! ### awsquery: the writer behind Encode -/
theorem mWW (g : Nat) (v : Value) (w : World) (h : w.cell? ⟨g, 0, none⟩ = some v) : (method 395 136 (.pointer (some ⟨g, 0, none⟩)) "WriteString").run Tryz.prog w = .ok (266, .agg #[v]) w := by
 have hm : (Tryz.prog.info? 136).map (fun i => (i.methods.find? (·.name == "WriteString")).map (fun m => (m.path, m.func))) = some (some (#[], some (266, false))) := by kernel_rfl
 obtain ⟨i, hi, hm⟩ := Option.map_eq_some_iff.1 hm
 obtain ⟨m, hf, hm⟩ := Option.map_eq_some_iff.1 hm
 simp only [Prod.mk.injEq] at hm
 have h1 : (isAgg 138).run Tryz.prog w = .ok true w := by kernel_rfl
 have h2 : (sizeOf 138).run Tryz.prog w = .ok 1 w := by kernel_rfl
 have hL : (loadVar 138 ⟨g, 0, none⟩).run Tryz.prog w = .ok (.agg #[v]) w := by
  have h3 : (loadCells ⟨g, 0, none⟩ 1).run Tryz.prog w = .ok #[v] w := run_loadCells_list (P := Tryz.prog) (w := w) ⟨g, 0, none⟩ [v] (fun j u hj => by
   cases j with
   | zero => simp at hj; subst hj; rw [plain_add]; exact h
   | succ j => simp at hj)
  simp only [loadVar, Sem.run_bind, h1, Result.andThen_ok, if_true, h2]
  rw [h3]
  rfl
 have hr : ∀ nm : String, (receiverAt 136 (.val (.pointer (some ⟨g, 0, none⟩))) false (some nm)).run Tryz.prog w = .ok (.agg #[v]) w := fun nm => by
  have hn : (Builtin.ssaWrapNilChk_ #[136] 136 #[.pointer (some ⟨g, 0, none⟩), strVal "", strVal nm]).run Tryz.prog w = .ok (.pointer (some ⟨g, 0, none⟩)) w := rfl
  unfold receiverAt
  simp only [Sem.run_bind, run_underlying Tryz.underlying136, Result.andThen_ok, Place.get, Sem.run_pure, hn]
  simp [asAddr, hL, Result.andThen]
 show (method (394 + 1) 136 _ _).run _ _ = _
 rw [method]
 simp [typeInfo, hi, hf, hm.1, hm.2, follow, Result.andThen, hr]
theorem nilWW (a : Addr) (w : World) : (nilAhead 395 136 (.pointer (some a)) "WriteString").run Tryz.prog w = .ok (some false) w := by kernel_rfl
theorem mZW (a : Addr) (w : World) : (method 395 52 (.pointer (some a)) "Write").run Tryz.prog w = .ok (257, .pointer (some a)) w := by kernel_rfl
set_option maxHeartbeats 400000 in
set_option maxRecDepth 100000 in
theorem zw {B b : Nat} {X : Nat → Prop} {xs : List Int} (A : Option Addr) (n c : Nat) (ys : List Int) (w : World) (h : JB 54 B X b xs w) (hr : ReadsInt w .u8 A n ys) (hl : xs.length + n ≤ 140737488355328) :
 Calls Tryz.prog 257 #[.pointer (some ⟨b, 0, none⟩), .slice A n c] w fun e w' => e = .returned (.tuple #[.int .i64 n, .nilIface]) ∧ Wrote 54 B X b (xs ++ ys) w w' := by
 have Hr := Aside0.mk hr; clear hr
 obtain ⟨v, hb, ho, hX⟩ := h.out
 have hc := cell_of hb
 have hlt : b < w.heap.size := lt_of hb
 have hB : B ≤ w.heap.size := by have := h.ge; omega
 have Hb := Aside0.mk hb; clear hb
 have Ho := Aside0.mk ho; clear ho
 have HX := Aside0.mk hX; clear hX
 have HH := Aside0.mk h; clear h
 go_enter Tryz.func257, Tryz.ntmps257
 go_wp2_with (at_builtin; refine print_append_row (w0 := w) B rfl (.tmp 10) (.tmp 11) 22 5 .u8 1 rfl Tryz.underlying22 inf5 (by omega) v xs ys A n c rfl rfl Ho.out Hr.out (Below.refl _ _) hB (by omega) ?_; intro v1 w1 ho1 hb1 hg1 hat1; have hP := HH.out.put_at Hb.out Ho.out HX.out hg1 ho1 hat1; obtain ⟨A1, c1, rfl⟩ := own_slice ho1; have hB1 := (hg1.block b hlt (fun e => own_ne (by decide) Hb.out Ho.out b e.symm rfl)).trans Hb.out; have hc1 := cell_of hB1; have hf1 := free_of hB1 0; have HB1 := Aside0.mk hB1; have HP := Aside0.mk hP; clear hB1 ho1 hg1 hat1 hP)
 go_ret2
 exact ⟨rfl, by simpa using HP.out⟩
set_option maxHeartbeats 1000000 in
set_option maxRecDepth 100000 in
theorem ww {B b : Nat} {X : Nat → Prop} {xs : List Int} (s : ByteArray) (w : World) (h : JB 54 B X b xs w) (hs : s.size ≤ 2147483647) (hl : xs.length + s.size ≤ 140737488355328) :
 Calls Tryz.prog 266 #[.agg #[.iface 52 (.pointer (some ⟨b, 0, none⟩))], .string s] w fun e w' => ∃ n, e = .returned (.tuple #[n, .nilIface]) ∧ Wrote 54 B X b (xs ++ bytesOf s) w w' := by
 have hcv := fun (w : World) (s : ByteArray) => Lib.run_convert_string_bytes (P := Tryz.prog) w 9 22 5 s (u := .string) Tryz.underlying9 Tryz.underlying22 Tryz.underlying5
 have hm := mZW ⟨b, 0, none⟩
 replace h := Aside0.mk h
 go_enter Tryz.func266, Tryz.ntmps266
 go_wp2_with fail
 have hb := below_alloc (Below.refl w.heap.size w) (.cells #[.iface 52 (.pointer (some ⟨b, 0, none⟩))] 138)
 have hsz : (w.alloc (.cells #[.iface 52 (.pointer (some ⟨b, 0, none⟩))] 138)).heap.size = w.heap.size + 1 := by simp
 generalize w.alloc (.cells #[.iface 52 (.pointer (some ⟨b, 0, none⟩))] 138) = w1 at *
 have hb1 := bytesWorld_below w1 s
 have ha1 := BAt.of_string w1 s
 rw [hsz] at ha1
 rw [← strZs_length w1 s]
 have ht1 := strZs_take w1 s
 have hc1 : (strZs w1 s).length ≤ 9223372036854775807 := by rw [strZs_length]; have := grownCap_le_maxLen w1 s.size 0 5 (by unfold maxLen; omega); unfold maxLen at this; omega
 have hle : s.size ≤ (strZs w1 s).length := by rw [strZs_length]; exact grownCap_ge w1 s.size 0 5
 have hb2 := Aside0.mk (below_then hb hb.size hb1)
 have hgl := ha1.lt
 generalize strZs w1 s = z1 at *
 generalize Lib.bytesWorld w1 5 s = w2 at *
 have hJ2 := h.out.re (X' := fun k => X k ∨ k = w.heap.size + 1) (fun k hk => hk.imp id (fun e => by omega)) (fun k hk => by rcases hk with e | e; have := h.out.low k e; have := hb2.out.size; omega; omega) hb2.out
 have hrd := seg_reads ha1 0 s.size (by omega) hc1
 rw [List.drop_zero, ht1] at hrd
 refine (zw (some ⟨w.heap.size + 1, 0, none⟩) s.size z1.length (bytesOf s) w2 hJ2 hrd hl).mono ?_
 rintro e w3 ⟨rfl, hw3⟩
 go_wp2
 go_ret2
 exact ⟨_, rfl, Wrote.from hb2.out h.out.low hw3 (fun k hk => .inl hk)⟩
/-! ### net/url -/
def tabL : List Int := [0, 0, 0, 0, 0, 0, 0, 0, 0, 0, 0, 0, 0, 0, 0, 0, 0, 0, 0, 0, 0, 0, 0, 0, 0, 0, 0, 0, 0, 0, 0, 0, 0, 76, 12, 0, 95, 0, 95, 12, 76, 76, 76, 95, 93, 127, 127, 65, 255, 255, 255, 255, 255, 255, 255, 255, 255, 255, 79, 93, 12, 95, 12, 64, 67, 255, 255, 255, 255, 255, 255, 127, 127, 127, 127, 127, 127, 127, 127, 127, 127, 127, 127, 127, 127, 127, 127, 127, 127, 127, 127, 12, 0, 12, 0, 127, 0, 255, 255, 255, 255, 255, 255, 127, 127, 127, 127, 127, 127, 127, 127, 127, 127, 127, 127, 127, 127, 127, 127, 127, 127, 127, 127, 0, 0, 0, 127, 0, 0, 0, 0, 0, 0, 0, 0, 0, 0, 0, 0, 0, 0, 0, 0, 0, 0, 0, 0, 0, 0, 0, 0, 0, 0, 0, 0, 0, 0, 0, 0, 0, 0, 0, 0, 0, 0, 0, 0, 0, 0, 0, 0, 0, 0, 0, 0, 0, 0, 0, 0, 0, 0, 0, 0, 0, 0, 0, 0, 0, 0, 0, 0, 0, 0, 0, 0, 0, 0, 0, 0, 0, 0, 0, 0, 0, 0, 0, 0, 0, 0, 0, 0, 0, 0, 0, 0, 0, 0, 0, 0, 0, 0, 0, 0, 0, 0, 0, 0, 0, 0, 0, 0, 0, 0, 0, 0, 0, 0, 0, 0, 0, 0, 0, 0, 0, 0, 0, 0, 0, 0, 0, 0, 0, 0, 0, 0, 0]
def tab (c : Nat) : Int := tabL.getD c 0
/-- The table's cells are laid in the world. -/
def Tab (w : World) : Prop := ∀ c : Nat, c < 256 → w.cell? ⟨0, c, none⟩ = some (.int .u8 (tab c))
theorem Tab.lt {w : World} (h : Tab w) : 0 < w.heap.size := World.block_lt_of_cell? w _ (h 0 (by omega))
theorem Tab.fr {S : Nat → Prop} {w w1 : World} (h : Tab w) (hb : Fr S w w1) (hB : ¬ S 0) : Tab w1 := fun c hc => by
 rw [World.cell?_of_block (w := w) (hb.block 0 h.lt hB)]; exact h c hc
theorem Tab.below {w w1 : World} (h : Tab w) (hb : Below w.heap.size w w1) : Tab w1 := h.fr (Fr.of_below (S := fun _ => False) hb) (fun h => h)
set_option maxRecDepth 100000 in
theorem tab_range (c : Nat) : 0 ≤ tab c ∧ tab c ≤ 255 := by
 have h : ∀ c : Nat, c < 256 → 0 ≤ tab c ∧ tab c ≤ 255 := by decide +kernel
 by_cases hc : c < 256
 ·exact h c hc
 ·have : tab c = 0 := by unfold tab; rw [List.getD_eq_getElem?_getD, List.getElem?_eq_none (by rw [show tabL.length = 256 from by decide]; omega)]; rfl
  omega
/-- What must be escaped, by mode. -/
def should (c : Int) (m : Int) : Bool := Go.bits .and .u8 (tab c.toNat) m == 0
set_option maxHeartbeats 400000 in
set_option maxRecDepth 100000 in
theorem should_call (c m : Int) (w : World) (hT : Tab w) (h0 : 0 ≤ c) (h1 : c ≤ 255) :
 Calls Tryz.prog 190 #[.int .u8 c, .int .u8 m] w fun e w' => e = .returned (.bool (should c m)) ∧ w = w' := by
 obtain ⟨n, rfl⟩ := Int.eq_ofNat_of_zero_le h0
 have hc := hT n (by omega)
 have hr := tab_range n
 clear hT
 go_enter Tryz.func190, Tryz.ntmps190
 go_wp2
 go_ret
 exact ⟨rfl, rfl⟩
set_option maxHeartbeats 4000000 in
set_option maxRecDepth 100000 in
/-- Nothing to escape. -/
theorem escp (s : ByteArray) (w : World) (hT : Tab w) (hs : s.size ≤ 2147483647) (hp : ∀ c ∈ bytesOf s, should c 32 = false) :
 Calls Tryz.prog 146 #[.string s, .int .u8 32] w fun e w' => e = .returned (.string s) ∧ Below w.heap.size w w' := by
 have hcv := fun (w : World) (s : ByteArray) => Lib.run_convert_string_bytes (P := Tryz.prog) w 9 22 5 s (u := .string) Tryz.underlying9 Tryz.underlying22 Tryz.underlying5
 replace hp := Aside0.mk hp; replace hT := Aside0.mk hT
 go_enter Tryz.func146, Tryz.ntmps146
 go_wp2_with fail
 have hb1 := bytesWorld_below w s
 have ha1 := BAt.of_string w s
 rw [← strZs_length w s]
 have ht1 := strZs_take w s
 have hle : s.size ≤ (strZs w s).length := by rw [strZs_length]; exact grownCap_ge w s.size 0 5
 generalize strZs w s = z1 at *
 generalize Lib.bytesWorld w 5 s = w2 at *
 obtain ⟨n, hn⟩ : ∃ n, s.size = n := ⟨_, rfl⟩
 have hT2 := Aside0.mk (hT.out.below hb1)
 replace hb1 := Aside0.mk hb1; replace ha1 := Aside0.mk ha1; replace ht1 := Aside0.mk ht1
 rw [hn] at hs hle ht1 ⊢
 replace hn := Aside0.mk hn
 go_loopg [5, 6, 19] n (fun q v5 v6 v19 w' => ∃ i : Nat, v5 = .int .i64 0 ∧ v6 = .int .i64 0 ∧ v19 = .int .i64 i ∧ i ≤ n ∧ Aside0 (q = n - i) ∧ w' = w2)
 case atStart => exact ⟨0, rfl, rfl, rfl, Nat.zero_le _, ⟨by omega⟩, rfl⟩
 case round =>
  obtain ⟨i, rfl, rfl, rfl, hin, hq, rfl⟩ := hrel
  by_cases hlt : i < n
  ·have hcell := ha1.out.cell i (by omega)
   have hx : z1.getD i 0 ∈ bytesOf s := by
    rw [← ht1.out, List.getD_eq_getElem?_getD, List.getElem?_eq_getElem (by omega)]
    exact List.mem_take_iff_getElem.2 ⟨i, by omega, rfl⟩
   have hpx := hp.out _ hx
   have hrx : 0 ≤ z1.getD i 0 ∧ z1.getD i 0 ≤ 255 := by
    unfold bytesOf at hx
    obtain ⟨u, _, hu⟩ := List.mem_map.1 hx
    have := u.toNat_lt
    omega
   have hcall := should_call (z1.getD i 0) 32 wr hT2.out hrx.1 hrx.2
   rw [hpx] at hcall
   generalize z1.getD i 0 = x at *
   replace hcall := Aside0.mk hcall
   clear hx hpx
   go_wp2_with fail
   refine hcall.out.mono ?_
   rintro e w3 ⟨rfl, rfl⟩
   go_wp2_with fail
   go_roundg (n - (i + 1))
   case rel => exact ⟨i + 1, rfl, rfl, by go_num, by omega, ⟨rfl⟩, rfl⟩
   case measure => have := hq.out; omega
  ·obtain rfl : i = n := by omega
   go_wp2
   go_ret
   exact ⟨rfl, hb1.out⟩
set_option maxRecDepth 100000 in
theorem qescp (s : ByteArray) (w : World) (hT : Tab w) (hs : s.size ≤ 2147483647) (hp : ∀ c ∈ bytesOf s, should c 32 = false) :
 Calls Tryz.prog 78 #[.string s] w fun e w' => e = .returned (.string s) ∧ Below w.heap.size w w' := by
 replace hp := Aside0.mk hp; replace hT := Aside0.mk hT
 go_enter Tryz.func78, Tryz.ntmps78
 go_wp2_with fail
 refine (escp s w hT.out hs hp.out).mono ?_
 rintro e w1 ⟨rfl, hb⟩
 replace hb := Aside0.mk hb
 go_wp2
 go_ret
 exact ⟨rfl, hb.out⟩
end H
end Go.Proofs.YtkihaebaccdjdaaGreatDoor
namespace Go.Proofs.YtkihaebaccdjdaaGreatDoor
open Go.ChangeShapes Go.WideShapes Go.ChangeAt Go.RowKit
namespace Cl
theorem own : ownKnob Tryz.prog.godebug = none := by kernel_rfl
theorem laidOut : laidOutB Tryz.prog = true := by kernel_rfl
theorem gTab : Tryz.prog.globalNamed "loop.example/pub-g01523/pub/neturl.table" = some 0 := by kernel_rfl
theorem gTabType : (Tryz.prog.globals[0]?).map (·.type) = some 262 := by kernel_rfl
theorem cells262 : Tryz.prog.cellsOf 262 = 256 := by kernel_rfl
theorem cells5 : Tryz.prog.cellsOf 5 = 1 := by kernel_rfl
theorem varsOk : varsRowed Tryz.prog ["loop.example/pub-g01523/pub/neturl.table"] = true := by kernel_rfl

/-- Every argument reads as it did. -/
theorem trodAll_below {H : Type} {enc : TypeId × Value → H} {P : Program} (hl : laidOutB P = true) {W W' : World} (hb : Below W.heap.size W W') :
 ∀ {ts : List TypeId} {vs : List Value} {ds : List (DataW H)} {ps : List MemPlace}, (ts.all fun t => P.readableRec t && decide (t < P.types.size)) = true → DataW.TrodAll enc P W 0 (fun _ => true) true ts vs ds ps →
  DataW.TrodAll enc P W' 0 (fun b => decide (b < W.heap.size)) true ts vs ds ps
 | [], vs, ds, ps, _, h => by
   cases vs <;> cases ds <;> simp_all [DataW.TrodAll]
 | t :: ts, vs, ds, ps, ht, h => by
   obtain ⟨v, vs', d, ds', p, q, rfl, rfl, rfl, h0, r⟩ := trodAll_cons h
   simp only [List.all_cons, Bool.and_eq_true, decide_eq_true_eq] at ht
   have hlt := h.lt
   exact trodAll_cons_mk (Below.trod hl ht.1.1 ht.1.2 h0 hb (fun x hx => hlt x (by simp [hx]))) (trodAll_below hl hb (by simpa using ht.2) r)
/-- What is owed at the end of a call that hands back true and turns nothing that was there. -/
theorem post_true {H : Type} {enc : TypeId × Value → H} {P : Program} (hl : laidOutB P = true) (hbool : P.underlying 4 = some .bool) {f : Func} {s : ChangeSpec} (hts : (f.params.toList.all fun t => P.readableRec t && decide (t < P.types.size)) = true) (hvr : varsRowed P s.vars = true)
 (hres : f.resultTypes = #[4]) {W W' : World} {args : Array Value} {ds gs : List (DataW H)} {before : List MemPlace} (hW : DataW.Whole enc P f.params.toList s.vars false W args.toList ds gs before) (hb : Below W.heap.size W W')
 (hs : s.fn H (ds ++ gs) = { results := [.lit (.bool true)], args := ds, vars := gs }) : s.post enc P f false true false false W args (.bool true) W' := by
 have hW' := hW
 obtain ⟨p, q, hA, hV, rfl, _, _⟩ := hW
 refine ⟨ds, gs, p ++ q, [], p, q, hW', ?_, ?_, ?_, hb.frame _, fun h => by cases h⟩
 ·rw [hs, hres]
  exact trodAll_cons_mk (shut_bool hbool _) trodAll_mk0
 ·rw [hs]; exact trodAll_below hl hb hts hA
 ·rw [hs]; exact Below.trodVars hl hb hvr hV
/-- The tables, off the row's list. -/
theorem laid_eq : (Rows.laid_loop_example_pub_g01523_pub_neturl_table : DataW Unit) = Lib.tabData .u8 H.tabL := by kernel_rfl
abbrev laidL : List (String × DataW Unit) := [("math/bits.deBruijn32tab", Rows.laid_math_bits_deBruijn32tab), ("math/bits.deBruijn64tab", Rows.laid_math_bits_deBruijn64tab), ("internal/strconv.uint64pow10", Rows.laid_internal_strconv_uint64pow10), ("unicode/utf8.acceptRanges", Rows.laid_unicode_utf8_acceptRanges), ("loop.example/pub-g01523/pub/neturl.table", Rows.laid_loop_example_pub_g01523_pub_neturl_table), ("unicode/utf8.first", Rows.laid_unicode_utf8_first)]
set_option maxRecDepth 1000000 in
theorem tab_of {W : World} (h : laidMet Tryz.prog laidL W) : H.Tab W := by
 have h := h.tail.tail.tail.tail
 rw [laid_eq] at h
 have h1 : Lib.TabIs Tryz.prog W "loop.example/pub-g01523/pub/neturl.table" .u8 H.tabL := Lib.tabIs_of_head gTab gTabType Tryz.underlying262 Tryz.underlying5 cells5 cells262 h
 have hlen : H.tabL.length = 256 := by kernel_rfl
 intro c hc
 have := h1.cell gTab c (by rw [hlen]; exact hc)
 rw [this]
 simp only [H.tab, List.getD_eq_getElem?_getD, List.getElem?_eq_getElem (show c < H.tabL.length by rw [hlen]; exact hc), Option.getD_some]
theorem u8x : U8Extra Tryz.prog Tryz.lays260_ren := { n3 := by kernel_rfl, n4 := by kernel_rfl, y3 := by kernel_rfl, y4 := by kernel_rfl, c5 := by kernel_rfl, c119 := by kernel_rfl, c138 := by kernel_rfl }
theorem first_eq : (Rows.laid_unicode_utf8_first : DataW Unit) = Lib.firstData := by kernel_rfl
theorem accept_eq : (Rows.laid_unicode_utf8_acceptRanges : DataW Unit) = Lib.acceptData := by kernel_rfl
theorem u8_of {W : World} (h : laidMet Tryz.prog laidL W) : Lib.Utf8Tabs 2 3 W := by
 have h3 := Lib.laidMet.reads h (n := "unicode/utf8.first") (d := Rows.laid_unicode_utf8_first) (by simp)
 have h4 := Lib.laidMet.reads h (n := "unicode/utf8.acceptRanges") (d := Rows.laid_unicode_utf8_acceptRanges) (by simp)
 rw [first_eq] at h3
 rw [accept_eq] at h4
 exact utf8Tabs_of_reads Tryz.lays260 u8x h3 h4
theorem four_of {W : World} (h : Lib.Utf8Tabs 2 3 W) : 4 ≤ W.heap.size := World.block_lt_of_cell? W _ (h.2 0 (by omega)).1
def lits1 : DataW Unit → List Value
 | .lit (.int k n) => [.int k n]
 | _ => []
def lits2 : DataW Unit → List Value
 | .agg xs => xs.flatMap lits1
 | d => lits1 d
def lits3 : DataW Unit → List Value
 | .agg xs => xs.flatMap lits2
 | d => lits2 d
noncomputable def laidWorld (os : Os) : World :=
 let w0 := World.holding Tryz.prog os ⟨#[], #[], []⟩
 let put (h : Array Obj) (g : Nat) (cs : Array Value) : Array Obj := h.modify g fun
  | .cells _ t frozen => .cells cs t frozen
  | o => o
 let h0 := put w0.heap 0 (lits3 Rows.laid_loop_example_pub_g01523_pub_neturl_table).toArray
 let h1 := put h0 1 (lits3 Rows.laid_internal_strconv_uint64pow10).toArray
 let h2 := put h1 2 (lits3 Rows.laid_unicode_utf8_first).toArray
 let h3 := put h2 3 (lits3 Rows.laid_unicode_utf8_acceptRanges).toArray
 let h4 := put h3 4 (lits3 Rows.laid_math_bits_deBruijn32tab).toArray
 let h5 := put h4 5 (lits3 Rows.laid_math_bits_deBruijn64tab).toArray
 { w0 with heap := h5 }
set_option maxRecDepth 1000000 in
theorem pieceA (os : Os) (args : Array Value) : LaidIn Tryz.prog ((laidWorld os).forCall (fun _ _ => 0) ⟨#[], args, []⟩).memory [("math/bits.deBruijn32tab", Rows.laid_math_bits_deBruijn32tab), ("math/bits.deBruijn64tab", Rows.laid_math_bits_deBruijn64tab), ("internal/strconv.uint64pow10", Rows.laid_internal_strconv_uint64pow10), ("unicode/utf8.acceptRanges", Rows.laid_unicode_utf8_acceptRanges)] [4, 5, 1, 3] :=
 LaidIn.of_run [4, 5, 1, 3] 8 (by kernel_rfl) (by kernel_rfl) (by kernel_rfl) (by kernel_rfl)
set_option maxRecDepth 1000000 in
theorem pieceE (os : Os) (args : Array Value) : LaidIn Tryz.prog ((laidWorld os).forCall (fun _ _ => 0) ⟨#[], args, []⟩).memory [("loop.example/pub-g01523/pub/neturl.table", Rows.laid_loop_example_pub_g01523_pub_neturl_table)] [0] :=
 LaidIn.of_run [0] 8 (by kernel_rfl) (by kernel_rfl) (by kernel_rfl) (by kernel_rfl)
set_option maxRecDepth 1000000 in
theorem pieceF (os : Os) (args : Array Value) : LaidIn Tryz.prog ((laidWorld os).forCall (fun _ _ => 0) ⟨#[], args, []⟩).memory [("unicode/utf8.first", Rows.laid_unicode_utf8_first)] [2] :=
 LaidIn.of_run [2] 8 (by kernel_rfl) (by kernel_rfl) (by kernel_rfl) (by kernel_rfl)
set_option maxRecDepth 1000000 in
theorem laid_met (os : Os) (args : Array Value) : laidMet Tryz.prog laidL ((laidWorld os).forCall (fun _ _ => 0) ⟨#[], args, []⟩).memory :=
 (((pieceA os args).append (pieceE os args) (by kernel_rfl)).append (pieceF os args) (by kernel_rfl)).met
end Cl
end Go.Proofs.YtkihaebaccdjdaaGreatDoor
