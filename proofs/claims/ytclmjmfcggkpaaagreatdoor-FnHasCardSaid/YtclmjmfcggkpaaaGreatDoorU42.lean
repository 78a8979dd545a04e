import Derived.Test.YtclmjmfcggkpaaaGreatDoorU14
import Derived.Test.YtclmjmfcggkpaaaGreatDoorU39
import Derived.Test.YtclmjmfcggkpaaaGreatDoorU27
import Derived.Test.YtclmjmfcggkpaaaGreatDoorU37
import Derived.Test.YtclmjmfcggkpaaaGreatDoorU41
set_option linter.unusedVariables false
set_option linter.unusedSimpArgs false
namespace Go.Proofs.YtclmjmfcggkpaaaGreatDoor
open Go.RowKit Go.Proofs.YtclmjmfcggkpaaaGreatDoorW.PrintWords Go.Proofs.YtclmjmfcggkpaaaGreatDoorW.PrintLast Go.Proofs.YtclmjmfcggkpaaaGreatDoorW.PrintMore
open PX
namespace HH
open H
/-! ### spec.HeadersOf -/
def adds (wh : Int) : Bool := (wh == 4) || (wh == 6)
def putF (L : List S73) (f : S48) : List S73 := putH L (hkey f.f0 f.f1 f.f2) [txt f.f3 f.f4 f.f5] (adds f.f0)
def outH (bef : List S73) (fs : List S48) : List S73 := fs.foldl putF (bef.foldl putB [])
theorem ok3_fs {L : List S73} (fs : List S48) {n N : Nat} (h : Ok3 L n N) : ∀ k, k ≤ fs.length → Ok3 ((fs.take k).foldl putF L) (n + k) (N + k) := by
 intro k
 induction k with
 | zero => intro _; exact h
 | succ k ih =>
   intro hk
   rw [fold_take putF L (List.getElem?_eq_getElem (show k < fs.length by omega))]
   exact ((ih (by omega)).put _ _ _).mono (by omega) (by simp; omega)
theorem headerKey_call (wh : Int) (pre key : ByteArray) (kind : Int) (text : ByteArray) (num : Int) (w : World) (hp : pre.size ≤ 2147483647) (hk : key.size ≤ 2147483647) :
 Calls Tryz.prog 44 #[.agg #[.int .i64 wh, .string pre, .string key, .int .i64 kind, .string text, .int .i64 num]] w fun e w' => e = .returned (.string (hkey wh pre key)) ∧ Below w.heap.size w w' := by
 refine spec_headerKey.calls _ _ _ _ _ _ _ w ?_
 unfold spec_headerKey.f hkey
 by_cases h : wh ≥ 5
 ·rw [if_pos h, if_pos (by omega), if_pos (show (5 : Int) ≤ wh from h)]
 ·rw [if_neg h, if_neg (show ¬ (5 : Int) ≤ wh from h)]
theorem six {w : World} {fb : Nat} {a b c d e f : Value} {t : TypeId} {z : Nat × Nat} (h : w.heap[fb]? = some (.cells #[a, b, c, d, e, f] t z)) :
 w.cell? ⟨fb, 0, none⟩ = some a ∧ w.cell? ⟨fb, 1, none⟩ = some b ∧ w.cell? ⟨fb, 2, none⟩ = some c ∧ w.cell? ⟨fb, 3, none⟩ = some d ∧ w.cell? ⟨fb, 4, none⟩ = some e ∧ w.cell? ⟨fb, 5, none⟩ = some f :=
 ⟨by rw [cell_at h]; rfl, by rw [cell_at h]; rfl, by rw [cell_at h]; rfl, by rw [cell_at h]; rfl, by rw [cell_at h]; rfl, by rw [cell_at h]; rfl⟩
theorem one_C {w : World} {b : Nat} {s : ByteArray} {t : TypeId} {z : Nat × Nat} (h : w.heap[b]? = some (.cells #[.string s] t z)) : Kd.string.C w (some ⟨b, 0, none⟩) [s].length [s] := by
 refine ⟨rfl, by simp, fun _ => ⟨_, rfl, fun j p hj => ?_⟩⟩
 cases j with
 | zero =>
   obtain rfl := Option.some.inj hj
   refine ⟨[.string s], rfl, rfl, fun i u hi => ?_⟩
   cases i with
   | zero =>
     obtain rfl := Option.some.inj hi
     rw [plain_add]
     show w.cell? ⟨b, 0 + (0 * 1 + 0), none⟩ = _
     rw [cell_at h]; rfl
   | succ i => simp at hi
 | succ j => simp at hj
theorem sv_no9 {B ob b : Nat} {w : World} {cs cs' : Array Value} {z z' : Nat × Nat} (h : w.heap[b]? = some (.cells cs 9 z)) (ho : w.heap[ob]? = some (.cells cs' 31 z')) (hs : Sv B ob w b) : False := by
 rcases hs.2 with e | ⟨cs2, f2, e⟩
 ·subst e; rw [h] at ho; injection ho with ho; injection ho with _ ho; exact absurd ho (by decide)
 ·rw [h] at e; injection e with e; injection e with _ e; exact absurd e (by decide)
theorem sv_no48 {B ob b : Nat} {w : World} {cs cs' : Array Value} {z z' : Nat × Nat} (h : w.heap[b]? = some (.cells cs 48 z)) (ho : w.heap[ob]? = some (.cells cs' 31 z')) (hs : Sv B ob w b) : False := by
 rcases hs.2 with e | ⟨cs2, f2, e⟩
 ·subst e; rw [h] at ho; injection ho with ho; injection ho with _ ho; exact absurd ho (by decide)
 ·rw [h] at e; injection e with e; injection e with _ e; exact absurd e (by decide)
theorem textS_txt (kind : Int) (text : ByteArray) (num : Int) (h : 0 ≤ kind ∧ kind ≤ 6) : txt kind text num = textS kind text num := by
 unfold txt textS
 split
 ·rfl
 ·rw [if_neg (by omega)]
theorem putF_eq {L : List S73} (wh : Int) (pre key : ByteArray) (kind : Int) (text : ByteArray) (num : Int) (h : 0 ≤ kind ∧ kind ≤ 6) : putF L ⟨wh, pre, key, kind, text, num⟩ = putH L (hkey wh pre key) [textS kind text num] (adds wh) := by
 unfold putF
 rw [textS_txt _ _ _ h]
theorem rd48_at (xs : List S48) (k : Nat) (h : k < xs.length) : xs[k]? = some (rd_T48 xs (k : Int)) := by
 simp [rd_T48, List.getElem?_eq_getElem h]
set_option maxHeartbeats 4000000 in
set_option maxRecDepth 100000 in
theorem hdrs_call (bef : List S73) (fs : List S48) (Ab A0 : Option Addr) (cb c0 : Nat) (w : World)
 (hb0 : Kd.C k73 w Ab bef.length bef) (hcb : bef.length ≤ cb) (hr0 : Kd.C k48 w A0 fs.length fs) (hc0 : fs.length ≤ c0) (hbn : bef.length ≤ 100) (hn : fs.length ≤ 100) (hbl : ∀ h ∈ bef, h.f1.length ≤ 100)
 (hf : ∀ f ∈ fs, (3 ≤ f.f0 ∧ f.f0 ≤ 6) ∧ (0 ≤ f.f3 ∧ f.f3 ≤ 6) ∧ f.f1.size ≤ 2147483647 ∧ f.f2.size ≤ 2147483647 ∧ f.f4.size ≤ 2147483647 ∧ (-9223372036854775808 ≤ f.f5 ∧ f.f5 ≤ 9223372036854775807)) :
 Calls Tryz.prog 26 #[.slice Ab bef.length cb, .slice A0 fs.length c0] w fun e w' => ∃ A c l, e = .returned (.slice A l.length c) ∧ l.length ≤ c ∧ Kd.C k73 w' A l.length l ∧ l = outH bef fs ∧ Below w.heap.size w w' := by
 replace hb0 := Aside0.mk hb0; replace hcb := Aside0.mk hcb; replace hr0 := Aside0.mk hr0; replace hc0 := Aside0.mk hc0; replace hbl := Aside0.mk hbl; replace hf := Aside0.mk hf
 have hrow0 := Aside0.mk (row73_new w)
 go_enter Tryz.func26, Tryz.ntmps26
 go_wp2_with (first | ((with_reducible refine gate_dst (N := 5) rfl ?_); refine box_event ?hg (N := 5) ?hd (cs := #[.slice none 0 0]) (t := 31) ?hr ?_; (case hd => rfl); (case hg => rfl); (case hr => first | (go_simp; done) | (go_simp; rfl)); intro ob hobe w2 hbox hb2; have hz0 := cell_at hbox 0; have hy0 := free_of hbox 0; simp at hz0; replace hb2 := Aside0.mk hb2; replace hbox := Aside0.mk hbox; replace hobe := Aside0.mk hobe))
 have hob1 := heap_set hbox.out 0 (.slice (some ⟨w.heap.size, 0, none⟩) 0 0)
 simp only [List.setIfInBounds_toArray, List.set_cons_zero] at hob1
 have hszw : (w.alloc (.cells #[] 73)).heap.size = w.heap.size + 1 := World.size_alloc _ _
 have hob' : Aside0 (w.heap.size ≤ ob) := .mk (by rw [hobe.out, hszw]; omega)
 have hB1 := ((below_alloc (Below.refl w.heap.size w) (.cells #[] 73)).trans ⟨hb2.out.os, hb2.out.tape, hb2.out.output, hb2.out.size, fun k hk => hb2.out.block k (by rw [hszw]; omega)⟩).setCell (p := ⟨ob, 0, none⟩) hob'.out (.slice (some ⟨w.heap.size, 0, none⟩) 0 0)
 have hS1 := (hrow0.out.calm hb2.out).other (w' := w2.setCell ⟨ob, 0, none⟩ (.slice (some ⟨w.heap.size, 0, none⟩) 0 0)) hbox.out (by decide) ((Fr.refl (· = ob) w2).setCell (p := ⟨ob, 0, none⟩) (.inl rfl) _)
 generalize w2.setCell ⟨ob, 0, none⟩ (.slice (some ⟨w.heap.size, 0, none⟩) 0 0) = W0 at *
 replace hob1 := Aside0.mk hob1; replace hB1 := Aside0.mk hB1; replace hS1 := Aside0.mk hS1
 clear hy0 hz0 hb2 hbox hobe hrow0 hszw
 go_loopg [15] bef.length (fun g v15 w' => ∃ (k : Nat) (v : Value) (ps : List (S73 × Value)), k ≤ bef.length ∧ v15 = .int .i64 k ∧ Aside0 (g = bef.length - k) ∧ Aside0 (w'.heap[ob]? = some (.cells #[v] 31 (0, 0))) ∧ Aside0 (SO w.heap.size v ps w') ∧ Aside0 (ps.map (·.1) = (bef.take k).foldl putB []) ∧ Aside0 (Below w.heap.size w w'))
 case atStart => exact ⟨0, _, [], Nat.zero_le _, rfl, ⟨by omega⟩, hob1, hS1, ⟨rfl⟩, hB1⟩
 case round =>
  clear hob1 hS1 hB1
  obtain ⟨k, v, ps, hk, rfl, hg, hob, hO, hT, hB⟩ := hrel
  rcases Nat.lt_or_ge k bef.length with hlt | hge
  ·obtain ⟨ad, A1, c1, rfl, x0, x1, hc1, hC1⟩ := at_T73 hb0.out (k : Int) (by omega) (by omega)
   replace x0 := (hB.out.cell (World.block_lt_of_cell? w _ x0)).trans x0
   replace x1 := (hB.out.cell (World.block_lt_of_cell? w _ x1)).trans x1
   simp only [Int.toNat_natCast] at x0 x1
   have hat := rd73_at bef k hlt
   have hlen1 : (rd_T73 bef (k : Int)).f1.length ≤ 100 := hbl.out _ (List.mem_of_getElem? hat)
   obtain ⟨bk, hbk⟩ : ∃ bk, bk = rd_T73 bef (k : Int) := ⟨_, rfl⟩
   rw [← hbk] at x0 x1 hlen1 hc1 hC1 hat
   replace hat := Aside0.mk hat
   replace hbk := Aside0.mk hbk
   replace hC1 := Aside0.mk hC1
   go_wp2_with (first | ((with_reducible refine gate_dst (N := 8) rfl ?_); refine box_event ?hg (N := 8) ?hd (cs := #[.string (⟨#[]⟩ : ByteArray), .slice none 0 0]) (t := 73) ?hr ?_; (case hd => rfl); (case hg => rfl); (case hr => first | (go_simp; done) | (go_simp; rfl)); intro fb hfb w2 hbox hb2; have hz0 := cell_at hbox 0; have hz1 := cell_at hbox 1; have hy0 := free_of hbox 0; have hy1 := free_of hbox 1; simp at hz0 hz1; replace hb2 := Aside0.mk hb2; replace hbox := Aside0.mk hbox; replace hfb := Aside0.mk hfb))
   have hle : wr.heap.size ≤ fb := by rw [hfb.out]; exact Nat.le_refl _
   have hb3 := (hb2.out.setCell (p := ⟨fb, 0, none⟩) hle (.string bk.f0)).setCell (p := ⟨fb, 1, none⟩) hle (.slice A1 bk.f1.length c1)
   generalize (w2.setCell ⟨fb, 0, none⟩ (.string bk.f0)).setCell ⟨fb, 1, none⟩ (.slice A1 bk.f1.length c1) = w3 at *
   have hB3 := below_then hB.out hB.out.size hb3
   have h3 := ok3_bef bef hbl.out k hk
   rw [← hT.out] at h3
   refine (put_call w.heap.size ob v ps bk.f0 A1 c1 bk.f1 false w3 (heap_below hb3 hob.out) (hO.out.calm hb3) hob'.out h3.s (by have := h3.n; rw [List.length_map] at this; omega) (fun p hp => by have := h3.v p.1 (List.mem_map_of_mem hp); omega) (fun w' hF => Kd.C_below hC1.out (hB3.trans (Sv.below hF hB3.size))) hc1 (by omega)).mono ?_
   rintro e w4 ⟨rfl, v4, ps4, q1, q2, q3, q4, _⟩
   have hT4 : Aside0 (ps4.map (·.1) = (bef.take (k + 1)).foldl putB []) := .mk (by
    rw [fold_take putB [] hat.out, ← hT.out]
    exact q3)
   have hB4 := Aside0.mk (hB3.trans q4)
   replace q1 := Aside0.mk q1; replace q2 := Aside0.mk q2
   clear q3 q4 h3 x0 x1 hz0 hz1 hy0 hy1 hb3 hB3 hb2 hbox
   go_wp2_with fail
   go_roundg (bef.length - (k + 1))
   case rel => exact ⟨k + 1, v4, ps4, by omega, by go_num, ⟨rfl⟩, q1, q2, hT4, hB4⟩
   case measure => have := hg.out; omega
  ·obtain rfl : k = bef.length := by omega
   go_wp2_with fail
   have hT1 : Aside0 (ps.map (·.1) = bef.foldl putB []) := .mk (by rw [hT.out, List.take_length])
   clear hT
   have h30 := Aside0.mk (ok3_bef bef hbl.out bef.length (Nat.le_refl _))
   go_loopg [28] fs.length (fun g v28 w' => ∃ (k : Nat) (v : Value) (ps : List (S73 × Value)), k ≤ fs.length ∧ v28 = .int .i64 k ∧ Aside0 (g = fs.length - k) ∧ Aside0 (w'.heap[ob]? = some (.cells #[v] 31 (0, 0))) ∧ Aside0 (SO w.heap.size v ps w') ∧ Aside0 (ps.map (·.1) = (fs.take k).foldl putF (bef.foldl putB [])) ∧ Aside0 (Below w.heap.size w w'))
   case atStart => exact ⟨0, v, ps, Nat.zero_le _, rfl, ⟨by omega⟩, hob, hO, ⟨hT1.out⟩, hB⟩
   case round =>
    clear hob hO hT1 hB
    obtain ⟨k, v, ps, hk, rfl, hg, hob, hO, hT, hB⟩ := hrel
    rcases Nat.lt_or_ge k fs.length with hlt | hge
    ·obtain ⟨ad, rfl, x0, x1, x2, x3, x4, x5⟩ := at_T48 hr0.out (k : Int) (by omega) (by omega)
     replace x0 := (hB.out.cell (World.block_lt_of_cell? w _ x0)).trans x0
     replace x1 := (hB.out.cell (World.block_lt_of_cell? w _ x1)).trans x1
     replace x2 := (hB.out.cell (World.block_lt_of_cell? w _ x2)).trans x2
     replace x3 := (hB.out.cell (World.block_lt_of_cell? w _ x3)).trans x3
     replace x4 := (hB.out.cell (World.block_lt_of_cell? w _ x4)).trans x4
     replace x5 := (hB.out.cell (World.block_lt_of_cell? w _ x5)).trans x5
     simp only [Int.toNat_natCast] at x0 x1 x2 x3 x4 x5
     have hat := rd48_at fs k hlt
     have hfk := hf.out _ (List.mem_of_getElem? hat)
     generalize rd_T48 fs (k : Int) = fk at *
     obtain ⟨wh, pre, key, kind, text, num⟩ := fk
     simp only at x0 x1 x2 x3 x4 x5 hfk
     obtain ⟨hwh, hkd, hz⟩ := hfk
     replace hat := Aside0.mk hat; replace hwh := Aside0.mk hwh; replace hkd := Aside0.mk hkd; replace hz := Aside0.mk hz
     have h3 := ok3_fs fs (ok3_bef bef hbl.out bef.length (Nat.le_refl _)) k hk
     rw [List.take_length, ← hT.out] at h3
     replace h3 := Aside0.mk h3
     go_wp2_with (first | ((with_reducible refine gate_dst (N := 10) rfl ?_); refine box_event ?hg (N := 10) ?hd (cs := #[.int .i64 0, .string (⟨#[]⟩ : ByteArray), .string (⟨#[]⟩ : ByteArray), .int .i64 0, .string (⟨#[]⟩ : ByteArray), .int .i64 0]) (t := 48) ?hr ?_; (case hd => rfl); (case hg => rfl); (case hr => first | (go_simp; done) | (go_simp; rfl)); intro fb hfb w2 hbox hb2; have hz0 := cell_at hbox 0; have hz1 := cell_at hbox 1; have hz2 := cell_at hbox 2; have hz3 := cell_at hbox 3; have hz4 := cell_at hbox 4; have hz5 := cell_at hbox 5; have hy0 := free_of hbox 0; have hy1 := free_of hbox 1; have hy2 := free_of hbox 2; have hy3 := free_of hbox 3; have hy4 := free_of hbox 4; have hy5 := free_of hbox 5; simp at hz0 hz1 hz2 hz3 hz4 hz5; replace hb2 := Aside0.mk hb2; replace hbox := Aside0.mk hbox; replace hfb := Aside0.mk hfb))
     have hle : wr.heap.size ≤ fb := by rw [hfb.out]; exact Nat.le_refl _
     have hb3 := Aside0.mk ((((((hb2.out.setCell (p := ⟨fb, 0, none⟩) hle (.int .i64 wh)).setCell (p := ⟨fb, 1, none⟩) hle (.string pre)).setCell (p := ⟨fb, 2, none⟩) hle (.string key)).setCell (p := ⟨fb, 3, none⟩) hle (.int .i64 kind)).setCell (p := ⟨fb, 4, none⟩) hle (.string text)).setCell (p := ⟨fb, 5, none⟩) hle (.int .i64 num))
     have hbx := Aside0.mk (heap_set (heap_set (heap_set (heap_set (heap_set (heap_set hbox.out 0 (.int .i64 wh)) 1 (.string pre)) 2 (.string key)) 3 (.int .i64 kind)) 4 (.string text)) 5 (.int .i64 num))
     simp only [List.setIfInBounds_toArray, List.set_cons_zero, List.set_cons_succ] at hbx
     generalize (((((w2.setCell ⟨fb, 0, none⟩ (.int .i64 wh)).setCell ⟨fb, 1, none⟩ (.string pre)).setCell ⟨fb, 2, none⟩ (.string key)).setCell ⟨fb, 3, none⟩ (.int .i64 kind)).setCell ⟨fb, 4, none⟩ (.string text)).setCell ⟨fb, 5, none⟩ (.int .i64 num) = w3 at *
     have hB3 := Aside0.mk (below_then hB.out hB.out.size hb3.out)
     clear x0 x1 x2 x3 x4 x5 hz0 hz1 hz2 hz3 hz4 hz5 hy0 hy1 hy2 hy3 hy4 hy5 hb2 hbox hle
     obtain ⟨b4, e4⟩ : ∃ b, (wh == 4) = b := ⟨_, rfl⟩
     obtain ⟨b6, e6⟩ : ∃ b, (wh == 6) = b := ⟨_, rfl⟩
     clear hwh
     cases b4 <;> cases b6
     all_goals
      refine wp_region_noPanic ?_
      refine wp_region_held_drew (S := fun w' => w'.cell? ⟨fb, 0, none⟩ = some (.int .i64 wh) ∧ w'.cell? ⟨fb, 1, none⟩ = some (.string pre) ∧ w'.cell? ⟨fb, 2, none⟩ = some (.string key) ∧ w'.cell? ⟨fb, 3, none⟩ = some (.int .i64 kind) ∧ w'.cell? ⟨fb, 4, none⟩ = some (.string text) ∧ w'.cell? ⟨fb, 5, none⟩ = some (.int .i64 num)) (by kernel_rfl) (six hbx.out) (fun hHeld => ?_)
      refine tk 0 ?_
      refine tk 1 ?_
      refine tk 3 ?_
      refine tk 4 ?_
      refine tk 5 ?_
      refine tk 6 ?_
      refine tk 7 ?_
      refine tk 8 ?_
      refine tk 11 ?_
      refine tk 12 ?_
      refine tk 13 ?_
      refine rd1 2 (fun K hK => ?_)
      go_simp
      refine (headerKey_call wh pre key kind text num w3.drew hz.out.1 hz.out.2.1).mono ?_
      rintro e u1 ⟨rfl, hb4⟩
      have hb4' : Below w3.heap.size w3 u1 := ⟨hb4.os, hb4.tape, hb4.output, hb4.size, hb4.block⟩
      go_simp
      refine hK.out _ _ (six (heap_below hb4' hbx.out)) (fun hHeld => ?_)
      clear hK K
      skip
      refine rd1 9 (fun K hK => ?_)
      go_simp
      refine (text_call kind text num u1 hz.out.2.2.1 hz.out.2.2.2.1 hz.out.2.2.2.2).mono ?_
      rintro e u2 ⟨rfl, hb5⟩
      have hb5' : Below w3.heap.size w3 u2 := below_then hb4' hb4'.size hb5
      go_simp
      refine hK.out _ _ (six (heap_below hb5' hbx.out)) (fun hHeld => ?_)
      clear hK K
      skip
      refine tk 14 ?_
      first | refine tku 15 ?_ | refine tk 15 ?_
      first | refine tku 16 ?_ | refine tk 16 ?_
      first | refine tku 17 ?_ | refine tk 17 ?_
      refine tk 18 ?_
      refine rd1 10 (fun K hK => ?_)
      go_simp
      have hb6 : Below w3.heap.size w3 (u2.alloc (.cells #[.string (textS kind text num)] 9)) := hb5'.alloc hb5'.size _
      have hnew6 := heap_new u2 (.cells #[.string (textS kind text num)] 9)
      have hge6 : Aside0 (w3.heap.size ≤ u2.heap.size) := .mk hb5'.size
      refine hK.out _ _ (six (heap_below hb6 hbx.out)) (fun hHeld => ?_)
      clear hK K
      skip
      refine rd1 19 (fun K hK => ?_)
      go_simp
      generalize hub : u2.heap.size = ub at *
      generalize u2.alloc (.cells #[.string (textS kind text num)] 9) = u3 at *
      have hB6 := below_then hB3.out hB3.out.size hb6
      have hob6 := heap_below hb6 (heap_below hb3.out hob.out)
      refine (put_call w.heap.size ob v ps (hkey wh pre key) (some ⟨ub, 0, none⟩) 1 [textS kind text num] _ u3 hob6 ((hO.out.calm hb3.out).calm hb6) hob'.out h3.out.s (by have := h3.out.n; rw [List.length_map] at this; omega) (fun p hp => by have := h3.out.v p.1 (List.mem_map_of_mem hp); omega) (fun w' hF => one_C (hF.heap hnew6 (fun hs => sv_no9 hnew6 hob6 hs))) (by simp) (by simp)).mono ?_
      rintro e u4 ⟨rfl, v4, ps4, q1, q2, q3, q4, q5⟩
      have hbx7 := q5.heap (heap_below hb6 hbx.out) (fun hs => sv_no48 (heap_below hb6 hbx.out) hob6 hs)
      have hT4 : Aside0 (ps4.map (·.1) = (fs.take (k + 1)).foldl putF (bef.foldl putB [])) := .mk (by
       rw [fold_take putF _ hat.out, ← hT.out]
       exact q3.trans (by rw [putF_eq wh pre key kind text num hkd.out]; unfold adds; rw [e4, e6]; rfl))
      have hB4 := Aside0.mk (hB6.trans q4)
      replace q1 := Aside0.mk q1; replace q2 := Aside0.mk q2; replace q5 := Aside0.mk q5
      clear q3 q4
      go_simp
      refine hK.out _ _ (six hbx7) (fun hHeld => ?_)
      clear hK K
      skip
      refine wpAnyH_done (by kernel_rfl) ?_ _
      refine NoPanic.normal ?_
      clear hHeld hbx7 hob6 hB6 hb6 hb5' hb5 hb4' hb4 hnew6
      go_wp2_with fail
      go_roundg (fs.length - (k + 1))
      case rel => exact ⟨k + 1, v4, ps4, by omega, by go_num, ⟨rfl⟩, q1, q2, hT4, hB4⟩
      case measure => have := hg.out; omega
    ·obtain rfl : k = fs.length := by omega
     have cob := cell_of hob.out
     go_wp2
     go_ret
     obtain ⟨A, c, e, hc, hF⟩ := hO.out.read (by have h := (ok3_fs fs (ok3_bef bef hbl.out bef.length (Nat.le_refl _)) fs.length (Nat.le_refl _)).n; rw [List.take_length, ← hT.out, List.length_map] at h; omega)
     exact ⟨A, c, _, by simp only [e]; rfl, hc, Kd.F_now hF, by rw [hT.out, List.take_length]; rfl, hB.out⟩
end HH
end Go.Proofs.YtclmjmfcggkpaaaGreatDoor
