import Derived.Test.YtclmjmfcggkpaaaGreatDoorQ10
import Derived.Test.YtclmjmfcggkpaaaGreatDoorQ29
set_option linter.unusedVariables false
set_option linter.unusedSimpArgs false
namespace Go.Proofs.YtclmjmfcggkpaaaGreatDoor
open Go.RowKit Go.Proofs.YtclmjmfcggkpaaaGreatDoorW.PrintWords Go.Proofs.YtclmjmfcggkpaaaGreatDoorW.PrintLast Go.Proofs.YtclmjmfcggkpaaaGreatDoorW.PrintMore
open PX
open Go.ChangeMaps (setBlock)
namespace HH
open H
/-! ### impl.Bind with headers -/
theorem append_copy_step {ops : Array Oper} {o : Oper} {a : Act} {Q : Exit → Act → World → Prop} {Kc : Act → World → Prop} {W : World} (hw : Region.wanted o (yielded ops a.tmps) = true) (s x : Operand)
 (ho : o.op = .call { callee := .builtin .append, args := #[s, x], argTypes := #[67, 67] }) (ys : List ByteArray) (A : Option Addr) (c : Nat)
 (hs : a.eval s = .slice (some ⟨W.heap.size, 0, none⟩) 0 0) (hx : a.eval x = .slice A ys.length c) (hr : Kd.string.C W A ys.length ys) (hl : ys.length ≤ 1000000)
 (h : ∀ v1 w1, Kd.string.R 9 w1 W.heap.size (fun _ => True) v1 ys → Below W.heap.size W w1 → Kc (a.put o.dst v1) w1) :
 if Region.wanted o (yielded ops a.tmps) = true then Oper.wp Tryz.prog o a (W.alloc (.cells #[] 9)) Kc Q else Kc (a.put o.dst undef) (W.alloc (.cells #[] 9)) := by
 have hb := below_alloc (Below.refl W.heap.size W) (.cells #[] 9)
 refine Kd.R_append_rows_step Kd.string (w0 := W) W.heap.size hw s x 67 9 (.string ⟨#[]⟩) 16 ho Tryz.underlying67 inf9 rfl (by decide) (by omega) _ [] ys A ys.length c (fun k => W.heap.size ≤ k) (fun _ => False) hs hx (empty_row W) (Kd.C_below hr hb) (fun _ _ h => h) (fun _ hk => hk.elim) (fun k hk => by have := hb.size; omega) hb hb.size (by simp; omega) ?_
 intro v1 w1 hR hB _ _
 exact h v1 w1 (Kd.R_mono hR (fun _ _ => trivial)) hB
theorem rd73_at (xs : List S73) (k : Nat) (h : k < xs.length) : xs[k]? = some (rd_T73 xs (k : Int)) := by
 simp [rd_T73, List.getElem?_eq_getElem h]
theorem lk_take {xs : List S73} (k : Nat) (h : k < xs.length) (q : ByteArray) (hnd : (xs.map (·.f0)).Nodup) :
 lk (xs.take (k + 1)) q = if (rd_T73 xs (k : Int)).f0 = q then some (rd_T73 xs (k : Int)).f1 else lk (xs.take k) q := by
 have e : xs[k] = rd_T73 xs (k : Int) := by
  have := rd73_at xs k h
  rw [List.getElem?_eq_getElem h] at this
  exact Option.some.inj this
 rw [List.take_succ_eq_append_getElem h, lk_app, e, lk_cons, lk_nil]
 by_cases hq : (rd_T73 xs (k : Int)).f0 = q
 ·rw [if_pos hq, if_pos hq]
  have : lk (xs.take k) q = none := by
   refine lk_not fun a ha => ?_
   obtain ⟨i, hi, rfl⟩ := List.mem_iff_getElem.1 ha
   rw [List.length_take] at hi
   rw [List.getElem_take, ← hq, ← e]
   have := List.pairwise_iff_getElem.1 hnd i k (by simp; omega) (by simpa using h) (by omega)
   simpa using this
  rw [this]; rfl
 ·rw [if_neg hq, if_neg hq]; simp
theorem HMq.reC {B : Nat} {X X' : Nat → Prop} {m n : Nat} {T : ByteArray → Option (List ByteArray)} {w : World} (h : HMq B X m n T w) (hX : ∀ k, X' k → X k ∨ w.heap.size ≤ k ∨ k < B) : HMq B X' m n T w := by
 obtain ⟨rs, clock, h1, h2, h3⟩ := h.out
 refine ⟨rs, clock, ⟨h1.obj, h1.below, h1.born, h1.keys, fun r hr => Kd.R_reok (by rfl) (h1.rows r hr) (fun k hk h' => ?_), h1.apart, h1.geB, fun h' => ?_⟩, h2, h3⟩
 ·have := h1.rowM hr hk
  rcases hX k h' with h' | h' | h'
  ·exact this.2.2.1 h'
  ·omega
  ·omega
 ·have := h1.lt
  have := h1.geB
  rcases hX m h' with h' | h' | h'
  ·exact h1.neN h'
  ·omega
  ·omega
theorem stores_fr (w : World) (res : Nat) (v0 v1 v2 v3 v4 v5 : Value) : Fr (fun k => k = res) w ((((((w.setCell ⟨res, 0, none⟩ v0).setCell ⟨res, 1, none⟩ v1).setCell ⟨res, 2, none⟩ v2).setCell ⟨res, 3, none⟩ v3).setCell ⟨res, 4, none⟩ v4).setCell ⟨res, 5, none⟩ v5) :=
 ((((((Fr.refl (fun k => k = res) w).setCell (p := ⟨res, 0, none⟩) (.inl rfl) _).setCell (p := ⟨res, 1, none⟩) (.inl rfl) _).setCell (p := ⟨res, 2, none⟩) (.inl rfl) _).setCell (p := ⟨res, 3, none⟩) (.inl rfl) _).setCell (p := ⟨res, 4, none⟩) (.inl rfl) _).setCell (p := ⟨res, 5, none⟩) (.inl rfl) _
def resV : Obj := .cells #[.string ⟨#[]⟩, .string ⟨#[]⟩, .string ⟨#[]⟩, .string ⟨#[]⟩, .slice none 0 0, .int .i64 0] 33
def reqV (ub hm : Nat) (n : Int) : Obj := .cells #[.string ⟨#[]⟩, .pointer (some ⟨ub, 0, none⟩), .string ⟨#[]⟩, .map (some hm), .int .i64 n] 91
def urlV (p r : ByteArray) : Obj := .cells #[.string ⟨#[]⟩, .string ⟨#[]⟩, .pointer none, .string ⟨#[]⟩, .string p, .string ⟨#[]⟩, .string ⟨#[]⟩, .string r, .string ⟨#[]⟩, .bool false, .bool false] 89
structure GH (res C hm n : Nat) (X : Nat → Prop) (Tf : ByteArray → Option (List ByteArray)) (w6 w' : World) : Prop where
 map : HMq C X hm n Tf w'
 tab : Tab w'
 row : ∃ cs : Array Value, cs.size = 6 ∧ w'.heap[res]? = some (.cells cs 33 (0, 0))
 fr : Fr (fun k => k = res) w6 w'
theorem GH.drew {res C hm n : Nat} {X : Nat → Prop} {Tf : ByteArray → Option (List ByteArray)} {w6 w' : World} (h : GH res C hm n X Tf w6 w') : GH res C hm n X Tf w6 w'.drew :=
 ⟨h.map.frX ((Fr.refl (fun _ => False) w').drew) (fun _ h => h.elim), h.tab, h.row, h.fr.drew⟩
theorem GH.call {res C hm n : Nat} {X : Nat → Prop} {Tf : ByteArray → Option (List ByteArray)} {w6 w' w'' : World} (h : GH res C hm n X Tf w6 w') (hb : Below w'.heap.size w' w'') : GH res C hm n X Tf w6 w'' := by
 have hf : Fr (fun _ => False) w' w'' := Fr.of_below hb
 obtain ⟨cs, h1, h2⟩ := h.row
 exact ⟨h.map.calm hb, h.tab.fr hf (fun h => h), ⟨cs, h1, hf.heap h2 (fun h => h)⟩, h.fr.trans hf (fun _ _ h => h.elim)⟩
theorem GH.set {res C hm n : Nat} {X : Nat → Prop} {Tf : ByteArray → Option (List ByteArray)} {w6 w' : World} (h : GH res C hm n X Tf w6 w') (hX : X res) (i : Nat) (v : Value) : GH res C hm n X Tf w6 (w'.setCell ⟨res, i, none⟩ v) := by
 obtain ⟨cs, h1, h2⟩ := h.row
 have hf : Fr (fun k => k = res) w' (w'.setCell ⟨res, i, none⟩ v) := (Fr.refl (fun k => k = res) w').setCell (p := ⟨res, i, none⟩) (.inl rfl) v
 have hn1 : ¬ (1 = res) := by
  rintro rfl
  have := h.tab 100 (by omega)
  rw [cell_at h2, Array.getElem?_eq_none (by omega)] at this
  exact absurd this (by simp)
 exact ⟨h.map.frX hf (fun k e => by subst e; exact hX), h.tab.fr hf hn1, ⟨_, by simpa using h1, heap_set h2 i v⟩, h.fr.setCell (.inl rfl) v⟩
theorem GH.cells {res C hm n : Nat} {X : Nat → Prop} {Tf : ByteArray → Option (List ByteArray)} {w6 w' : World} (h : GH res C hm n X Tf w6 w') : ∃ v0 v1 v2 v3 v4 v5, w'.heap[res]? = some (.cells #[v0, v1, v2, v3, v4, v5] 33 (0, 0)) := by
 obtain ⟨cs, h1, h2⟩ := h.row
 obtain ⟨l⟩ := cs
 match l, h1 with
 | [v0, v1, v2, v3, v4, v5], _ => exact ⟨v0, v1, v2, v3, v4, v5, h2⟩
theorem sortedQ_call {C hm n : Nat} {X : Nat → Prop} {T : ByteArray → Option (List ByteArray)} {w : World} (H : HMq C X hm n T w) (hx : ∀ k x, T k = some x → x.length ≤ 1000000) (hn : n ≤ 1000000) :
 Calls Tryz.prog 49 #[.map (some hm)] w fun e w' => ∃ A c l, e = .returned (.slice A l.length c) ∧ l.length ≤ c ∧ Kd.F k73 w' (fun k => w.heap.size ≤ k) A l.length l ∧ srt l ∧ (∀ k, lk l k = T k) ∧ Below w.heap.size w w' := by
 obtain ⟨rs, clock, h1, h2, h3⟩ := H.out
 refine (sorted_call w h1 (fun r hr => hx r.key r.xs (by rw [← h2]; exact (lk_iff h1.keys _ _).2 ⟨r, hr, rfl, rfl⟩)) (by omega)).mono ?_
 rintro e w' ⟨A, c, l, q1, q2, q3, q4, q5, q6, q7⟩
 exact ⟨A, c, l, q1, q2, q3, q4, fun k => (q5 k).trans (h2 k), q7⟩
theorem epS (b : Nat) (w : World) (hT : Tab w) (h4 : w.cell? ⟨b, 4, none⟩ = some (.string ⟨#[47]⟩)) (h7 : w.cell? ⟨b, 7, none⟩ = some (.string ⟨#[47]⟩)) :
 Calls Tryz.prog 48 #[.pointer (some ⟨b, 0, none⟩)] w fun e w' => e = .returned (.string ⟨#[47]⟩) ∧ Below w.heap.size w w' :=
 ep_call b ⟨#[47]⟩ ⟨#[47]⟩ w hT h4 h7 (ne_nil _ (by decide)) (by decide) (by decide) (by rfl)
def EncP (C eb qm hm n : Nat) (X : Nat → Prop) (rb ub : Nat) (N : Int) (Tf : ByteArray → Option (List ByteArray)) (w : World) (e : Ending) (w' : World) : Prop :=
 e = .returned (.tuple #[.pointer (some ⟨rb, 0, none⟩), .nilIface]) ∧ w'.heap[ub]? = some (urlV ⟨#[47]⟩ ⟨#[47]⟩) ∧ w'.heap[rb]? = some (reqV ub hm N) ∧ HMq C X hm n Tf w' ∧ Fr (fun k => k = ub ∨ k = rb ∨ k = hm) w w'
set_option maxHeartbeats 4000000 in
set_option maxRecDepth 100000 in
theorem bind_hdr (bef : List S73) (fs : List S48) (Ab A0 : Option Addr) (cb c0 : Nat) (T : Nat → ByteArray → Option (List ByteArray)) (N : Int) (Tf : ByteArray → Option (List ByteArray)) (w : World) (hTab : Tab w) (hP : Pow w) (hS : Spc w)
 (hb0 : Kd.C k73 w Ab bef.length bef) (hcb : bef.length ≤ cb) (hr0 : Kd.C k48 w A0 fs.length fs) (hc0 : fs.length ≤ c0) (hbn : bef.length ≤ 100) (hn : fs.length ≤ 100) (hnd : (bef.map (·.f0)).Nodup) (hbl : ∀ h ∈ bef, h.f1.length ≤ 100)
 (hT0 : ∀ k, lk bef k = T 0 k) (hsh : ∀ i, i ≤ fs.length → ∀ k x, T i k = some x → x.length ≤ 1000000)
 (hshf : ∀ k x, Tf k = some x → x.length ≤ 1000000)
 (hput : ∀ i, i < fs.length → ∀ (C eb mh n : Nat) (w' : World), MapIn C (fun k => k = eb) mh n (T i) w' → w'.cell? ⟨eb, 4, none⟩ = some (.map (some mh)) → Pow w' → Spc w' → Calls Tryz.prog 46 #[.pointer (some ⟨eb, 0, none⟩), FS (rd_T48 fs i)] w' (PutE C (fun k => k = eb) mh n (T (i + 1)) w'))
 (henc : ∀ (C eb qm hm n : Nat) (X : Nat → Prop) (rb ub : Nat) (w' : World), EncK C eb qm hm [47] [47] w' → HMq C X hm n (T fs.length) w' → X ub → X rb → X eb → w'.heap[rb]? = some (reqV ub (ub + 1) 0) → w'.heap[ub]? = some (urlV ⟨#[]⟩ ⟨#[]⟩) →
  Calls Tryz.prog 47 #[.pointer (some ⟨eb, 0, none⟩), .pointer (some ⟨rb, 0, none⟩)] w' (EncP C eb qm hm n X rb ub N Tf w')) :
 Calls Tryz.prog 18 #[.string ⟨#[47]⟩, .string ⟨#[]⟩, .slice Ab bef.length cb, .slice A0 fs.length c0] w fun e w' => ∃ A c l,
  e = .returned (.tuple #[.agg #[.string ⟨#[47]⟩, .string ⟨#[47]⟩, .string ⟨#[47]⟩, .string ⟨#[]⟩, .slice A l.length c, .int .i64 N], .bool true]) ∧ l.length ≤ c ∧ Kd.C k73 w' A l.length l ∧ srt l ∧ (∀ k, lk l k = Tf k) ∧ Below w.heap.size w w' := by
 have hmm' := @run_makeMap Tryz.prog
 replace hTab := Aside0.mk hTab; replace hP := Aside0.mk hP; replace hS := Aside0.mk hS; replace hb0 := Aside0.mk hb0; replace hcb := Aside0.mk hcb; replace hr0 := Aside0.mk hr0; replace hc0 := Aside0.mk hc0; replace hnd := Aside0.mk hnd; replace hbl := Aside0.mk hbl
 replace hT0 := Aside0.mk hT0; replace hsh := Aside0.mk hsh; replace hput := Aside0.mk hput; replace henc := Aside0.mk henc
 go_enter Tryz.func18, Tryz.ntmps18
 go_wp2_with fail
 have hres := heap_old (heap_new w resV) (.map #[] 0)
 have hbb := below_alloc (below_alloc (Below.refl w.heap.size w) resV) (.map #[] 0)
 have hM0 := HMr.made (w.alloc resV) (fun _ => False) (fun _ h => h.elim)
 simp only [World.size_alloc] at hM0
 unfold resV at hres hbb hM0
 generalize (w.alloc (.cells #[.string ⟨#[]⟩, .string ⟨#[]⟩, .string ⟨#[]⟩, .string ⟨#[]⟩, .slice none 0 0, .int .i64 0] 33)).alloc (.map #[] 0) = W0 at *
 have hmm : Aside0 (w.heap.size < w.heap.size + 1) := .mk (Nat.lt_succ_self _)
 generalize hmq : w.heap.size + 1 = mm at *
 replace hmq := Aside0.mk hmq
 replace hres := Aside0.mk hres; replace hbb := Aside0.mk hbb; replace hM0 := Aside0.mk hM0
 go_loopg [21] bef.length (fun g v21 w' => ∃ (k : Nat) (rs : List MR) (clk : Nat), k ≤ bef.length ∧ v21 = .int .i64 k ∧ Aside0 (g = bef.length - k) ∧ Aside0 (HMr mm (fun _ => False) mm rs clk w') ∧ Aside0 (∀ q, lk (rs.map MR.hd) q = lk (bef.take k) q) ∧ Aside0 (rs.length ≤ k) ∧ Aside0 (∀ r ∈ rs, r.xs.length ≤ 100) ∧ Aside0 (w'.heap[w.heap.size]? = some resV) ∧ Aside0 (Below w.heap.size w w'))
 case atStart => exact ⟨0, [], 0, Nat.zero_le _, rfl, ⟨by omega⟩, hM0, ⟨fun q => rfl⟩, ⟨Nat.le_refl _⟩, ⟨fun _ h => by cases h⟩, hres, hbb⟩
 case round =>
  clear hM0 hres hbb
  obtain ⟨k, rs, clk, hk, rfl, hg, hM, hT, hln, hxs, hres, hB⟩ := hrel
  rcases Nat.lt_or_ge k bef.length with hlt | hge
  ·obtain ⟨ad, A1, c1, rfl, x0, x1, hc1, hC1⟩ := at_T73 hb0.out (k : Int) (by omega) (by omega)
   replace x0 := (hB.out.cell (World.block_lt_of_cell? w _ x0)).trans x0
   replace x1 := (hB.out.cell (World.block_lt_of_cell? w _ x1)).trans x1
   simp only [Int.toNat_natCast] at x0 x1
   have hlen1 : (rd_T73 bef (k : Int)).f1.length ≤ 100 := hbl.out _ (List.mem_of_getElem? (rd73_at bef k hlt))
   obtain ⟨bk, hbk⟩ : ∃ bk, bk = rd_T73 bef (k : Int) := ⟨_, rfl⟩
   rw [← hbk] at x0 x1 hlen1 hc1 hC1
   replace hbk := Aside0.mk hbk
   replace hC1 := Aside0.mk hC1
   go_wp2_with (first | ((with_reducible refine gate_dst (N := 12) rfl ?_); refine box_event ?hg (N := 12) ?hd (cs := #[.string (⟨#[]⟩ : ByteArray), .slice none 0 0]) (t := 73) ?hr ?_; (case hd => rfl); (case hg => rfl); (case hr => first | (go_simp; done) | (go_simp; rfl)); intro fb hfb w2 hbox hb2; have hz0 := cell_at hbox 0; have hz1 := cell_at hbox 1; have hy0 := free_of hbox 0; have hy1 := free_of hbox 1; simp at hz0 hz1; replace hb2 := Aside0.mk hb2; replace hbox := Aside0.mk hbox; replace hfb := Aside0.mk hfb))
   have hle : wr.heap.size ≤ fb := by rw [hfb.out]; exact Nat.le_refl _
   have hb3 := (hb2.out.setCell (p := ⟨fb, 0, none⟩) hle (.string bk.f0)).setCell (p := ⟨fb, 1, none⟩) hle (.slice A1 bk.f1.length c1)
   have hbx := heap_set (heap_set hbox.out 0 (.string bk.f0)) 1 (.slice A1 bk.f1.length c1)
   simp only [List.setIfInBounds_toArray, List.set_cons_succ, List.set_cons_zero] at hbx
   generalize (w2.setCell ⟨fb, 0, none⟩ (.string bk.f0)).setCell ⟨fb, 1, none⟩ (.slice A1 bk.f1.length c1) = w3 at *
   have b0 := cell_at hbx 0; have b1 := cell_at hbx 1
   simp at b0 b1
   have hM3 := Aside0.mk (hM.out.calm hb3)
   have hB3 := Aside0.mk (below_then hB.out hB.out.size hb3)
   have hC1' := Aside0.mk (Kd.C_below hC1.out hB3.out)
   replace hbx := Aside0.mk hbx
   replace hb3 := Aside0.mk hb3
   have hnew := Aside0.mk (show ∀ r ∈ rs, r.key ≠ bk.f0 from fun r hr e => by
    have h1 := hT.out bk.f0
    have h2 := (lk_iff hM.out.keys bk.f0 r.xs).2 ⟨r, hr, e, rfl⟩
    rw [h2] at h1
    obtain ⟨a, ha, h3, _⟩ := lk_mem h1.symm
    obtain ⟨i, hi, rfl⟩ := List.mem_iff_getElem.1 ha
    rw [List.length_take] at hi
    rw [List.getElem_take, hbk.out] at h3
    have h4 := List.pairwise_iff_getElem.1 hnd.out i k (by simp; omega) (by simpa using hlt) (by omega)
    have h5 := rd73_at bef k hlt
    rw [List.getElem?_eq_getElem hlt] at h5
    have h6 := Option.some.inj h5
    rw [← h6] at h3
    exact h4 (by simpa using h3))
   clear hz0 hz1 hy0 hy1
   have hfbl : Aside0 (fb < w3.heap.size) := .mk (lt_of hbx.out)
   go_wp2_with fail
   refine wp_region_noPanic ?_
   refine wp_region_held_drew (S := fun w' => w'.cell? ⟨fb, 0, none⟩ = some (.string bk.f0) ∧ w'.cell? ⟨fb, 1, none⟩ = some (.slice A1 bk.f1.length c1)) (by kernel_rfl) ⟨b0, b1⟩ (fun hHeld => ?_)
   refine tk 0 ?_
   refine tk 1 ?_
   refine tk 2 ?_
   refine tk 4 ?_
   refine tk 5 ?_
   refine rd1 3 (fun K hK => ?_)
   go_simp
   refine hK.out _ _ ⟨cell_of_alloc b0, cell_of_alloc b1⟩ (fun hHeld => ?_)
   clear hK K
   skip
   refine rd1 6 (fun K hK => ?_)
   refine append_copy_step (W := w3.drew) (by rfl) (.tmp 28) (.tmp 30) rfl bk.f1 A1 c1 rfl rfl hC1'.out (by omega) ?_
   intro v1 w4 hR4 hb4
   have hb4' : Below w3.heap.size w3 w4 := ⟨hb4.os, hb4.tape, hb4.output, hb4.size, hb4.block⟩
   have hR4' : Kd.string.R 9 w4 w3.heap.size (fun _ => True) v1 bk.f1 := hR4
   have hbase := own_base (Kd.R_own hR4').choose_spec
   have hup := run_update_new (heap_below hb4' hM3.out.obj) bk.f0 v1 bk.f1 hnew.out
   have hM5 := hM3.out.push (w1 := w4) (row := none) (grown_of_below hb4' none) (fun k hk => by cases hk) hnew.out (Kd.R_reok (by rfl) (Kd.R_lower hR4' (by have := hM3.out.geB; have := hM3.out.lt; omega)) (fun k hk hX => by have h1 := hbase k hk; have := hM3.out.lt; omega)) hbase
   have hbx4 := heap_below hb4' hbx.out
   have hF5 := fr_setBlock (S := fun k => k = mm) w4 mm (.map ((rs ++ [(⟨bk.f0, v1, bk.f1, clk⟩ : MR)]).map MR.ent).toArray (clk + 1)) (.inl rfl)
   have hbx5 := hF5.heap hbx4 (fun e => by subst e; have := heap_below hb4' hM3.out.obj; rw [hbx4] at this; cases this)
   have hB5 : Aside0 (Below w.heap.size w (setBlock w4 mm (.map ((rs ++ [(⟨bk.f0, v1, bk.f1, clk⟩ : MR)]).map MR.ent).toArray (clk + 1)))) := .mk ((below_then hB3.out hB3.out.size hb4').trans (hF5.below (by have := hB3.out.size; have := hb4'.size; omega) (fun k _ e => by have := hmm.out; omega)))
   have hres5 : Aside0 ((setBlock w4 mm (.map ((rs ++ [(⟨bk.f0, v1, bk.f1, clk⟩ : MR)]).map MR.ent).toArray (clk + 1))).heap[w.heap.size]? = some resV) := .mk (hF5.heap (heap_below hb4' (heap_below hb3.out hres.out)) (fun e => by have := hmm.out; omega))
   have hT5 : Aside0 (∀ q, lk ((rs ++ [(⟨bk.f0, v1, bk.f1, clk⟩ : MR)]).map MR.hd) q = lk (bef.take (k + 1)) q) := .mk (fun q => by
    rw [lk_push (r := ⟨bk.f0, v1, bk.f1, clk⟩) (fun b hb => hnew.out b hb) q, lk_take k hlt q hnd.out, hT.out q, hbk.out])
   have hx5 : Aside0 (∀ r ∈ rs ++ [(⟨bk.f0, v1, bk.f1, clk⟩ : MR)], r.xs.length ≤ 100) := .mk (fun r hr => by
    rcases List.mem_append.1 hr with hr | hr
    ·exact hxs.out r hr
    ·obtain rfl := List.mem_singleton.1 hr; exact hlen1)
   have hl5 : Aside0 ((rs ++ [(⟨bk.f0, v1, bk.f1, clk⟩ : MR)]).length ≤ k + 1) := .mk (by have := hln.out; simp; omega)
   replace hM5 := Aside0.mk hM5
   replace hb4 := Aside0.mk hb4; replace hb4' := Aside0.mk hb4'; replace hR4 := Aside0.mk hR4; replace hR4' := Aside0.mk hR4'; replace hF5 := Aside0.mk hF5; replace hbx4 := Aside0.mk hbx4; replace hbx5 := Aside0.mk hbx5; replace hbase := Aside0.mk hbase
   generalize hw5 : setBlock w4 mm (.map ((rs ++ [(⟨bk.f0, v1, bk.f1, clk⟩ : MR)]).map MR.ent).toArray (clk + 1)) = w5 at *
   replace hw5 := Aside0.mk hw5
   have d0 := cell_at hbx4.out 0; have d1 := cell_at hbx4.out 1; have e0 := cell_at hbx5.out 0; have e1 := cell_at hbx5.out 1
   simp at d0 d1 e0 e1
   refine hK.out _ _ ⟨d0, d1⟩ (fun hHeld => ?_)
   clear hK K
   try simp only [Act.put, List.setIfInBounds_toArray, List.set_cons_zero, List.set_cons_succ]
   refine rd1 7 (fun K hK => ?_)
   go_simp
   refine hK.out _ _ ⟨e0, e1⟩ (fun hHeld => ?_)
   clear hK K
   skip
   refine wpAnyH_done (by kernel_rfl) ?_ _
   refine NoPanic.normal ?_
   clear hHeld d0 d1 e0 e1 hup
   go_wp2_with fail
   go_roundg (bef.length - (k + 1))
   case rel => exact ⟨k + 1, _, _, by omega, by go_num, ⟨rfl⟩, hM5, hT5, hl5, hx5, hres5, hB5⟩
   case measure => have := hg.out; omega
  ·obtain rfl : k = bef.length := by omega
   have hT1 : ∀ q, lk (rs.map MR.hd) q = T 0 q := fun q => (hT.out q).trans (by rw [List.take_length]; exact hT0.out q)
   go_wp2_with fail
   refine (newH_call ⟨#[47]⟩ wr hM.out (fun r hr => by have := hxs.out r hr; omega) (by decide)).mono ?_
   rintro e w1 ⟨C, eb, qm, mh, rfl, hE, hQ, hCge, hb1⟩
   have hE1 : Aside0 (EncK C eb qm mh [47] [47] w1) := .mk hE
   have hQ1 : Aside0 (HMq C (fun k => k = eb) mh rs.length (T 0) w1) := .mk (hQ.eqT hT1)
   have hres1 : Aside0 (w1.heap[w.heap.size]? = some resV) := .mk (heap_below hb1 hres.out)
   have hB1 := Aside0.mk (below_then hB.out hB.out.size hb1)
   have hwC : Aside0 (w.heap.size < C) := .mk (by have := lt_of hres.out; omega)
   have hln1 : Aside0 (rs.length ≤ 100) := .mk (by have := hln.out; omega)
   clear hE hQ hCge hb1 hM hT hln hxs hres hB hT1
   go_wp2_with fail
   go_loopg [45] fs.length (fun g v45 w' => ∃ (k n : Nat), k ≤ fs.length ∧ v45 = .int .i64 k ∧ Aside0 (g = fs.length - k) ∧ Aside0 (n ≤ 100 + k) ∧ Aside0 (EncK C eb qm mh [47] [47] w') ∧ Aside0 (HMq C (fun k => k = eb) mh n (T k) w') ∧ Aside0 (w'.heap[w.heap.size]? = some resV) ∧ Aside0 (Below w.heap.size w w'))
   case atStart => exact ⟨0, rs.length, Nat.zero_le _, rfl, ⟨by omega⟩, ⟨by have := hln1.out; omega⟩, hE1, hQ1, hres1, hB1⟩
   case round =>
    clear hE1 hQ1 hres1 hB1
    obtain ⟨k, n, hk2, rfl, hg2, hn2, hE, hQ, hres, hB⟩ := hrel
    by_cases hlt2 : k < fs.length
    ·obtain ⟨ad, rfl, x0, x1, x2, x3, x4, x5⟩ := at_T48 hr0.out (k : Int) (by omega) (by omega)
     replace x0 := (hB.out.cell (World.block_lt_of_cell? w _ x0)).trans x0
     replace x1 := (hB.out.cell (World.block_lt_of_cell? w _ x1)).trans x1
     replace x2 := (hB.out.cell (World.block_lt_of_cell? w _ x2)).trans x2
     replace x3 := (hB.out.cell (World.block_lt_of_cell? w _ x3)).trans x3
     replace x4 := (hB.out.cell (World.block_lt_of_cell? w _ x4)).trans x4
     replace x5 := (hB.out.cell (World.block_lt_of_cell? w _ x5)).trans x5
     simp only [Int.toNat_natCast] at x0 x1 x2 x3 x4 x5
     have hps := hput.out k hlt2
     generalize rd_T48 fs k = fk at *
     replace hps := Aside0.mk hps
     go_wp2_with (first | ((with_reducible refine gate_dst (N := 16) rfl ?_); refine box_event ?hg (N := 16) ?hd (cs := #[.int .i64 0, .string (⟨#[]⟩ : ByteArray), .string (⟨#[]⟩ : ByteArray), .int .i64 0, .string (⟨#[]⟩ : ByteArray), .int .i64 0]) (t := 48) ?hr ?_; (case hd => rfl); (case hg => rfl); (case hr => first | (go_simp; done) | (go_simp; rfl)); intro fb hfb w2 hbox hb2; have hz0 := cell_at hbox 0; have hz1 := cell_at hbox 1; have hz2 := cell_at hbox 2; have hz3 := cell_at hbox 3; have hz4 := cell_at hbox 4; have hz5 := cell_at hbox 5; have hy0 := free_of hbox 0; have hy1 := free_of hbox 1; have hy2 := free_of hbox 2; have hy3 := free_of hbox 3; have hy4 := free_of hbox 4; have hy5 := free_of hbox 5; simp at hz0 hz1 hz2 hz3 hz4 hz5; replace hb2 := Aside0.mk hb2; replace hbox := Aside0.mk hbox; replace hfb := Aside0.mk hfb))
     have hle : wr.heap.size ≤ fb := by rw [hfb.out]; exact Nat.le_refl _
     have hb3 := (((((hb2.out.setCell (p := ⟨fb, 0, none⟩) hle (.int .i64 fk.f0)).setCell (p := ⟨fb, 1, none⟩) hle (.string fk.f1)).setCell (p := ⟨fb, 2, none⟩) hle (.string fk.f2)).setCell (p := ⟨fb, 3, none⟩) hle (.int .i64 fk.f3)).setCell (p := ⟨fb, 4, none⟩) hle (.string fk.f4)).setCell (p := ⟨fb, 5, none⟩) hle (.int .i64 fk.f5)
     generalize (((((w2.setCell ⟨fb, 0, none⟩ (.int .i64 fk.f0)).setCell ⟨fb, 1, none⟩ (.string fk.f1)).setCell ⟨fb, 2, none⟩ (.string fk.f2)).setCell ⟨fb, 3, none⟩ (.int .i64 fk.f3)).setCell ⟨fb, 4, none⟩ (.string fk.f4)).setCell ⟨fb, 5, none⟩ (.int .i64 fk.f5) = w3 at *
     have hB3 := below_then hB.out hB.out.size hb3
     have hE3 := hE.out.calm hb3
     have hcall := hps.out C eb mh n w3 ⟨hQ.out.calm hb3, fun j e => by rw [e]; exact hE3.lt.1, hsh.out k (by omega)⟩ hE3.hdr (hP.out.below hB3) (hS.out.calm hB3)
     unfold FS FV at hcall
     refine hcall.mono ?_
     rintro e w4 ⟨rfl, hq4, hf4⟩
     clear x0 x1 x2 x3 x4 x5 hz0 hz1 hz2 hz3 hz4 hz5 hy0 hy1 hy2 hy3 hy4 hy5 hcall
     have hE4 := Aside0.mk (hE3.fr hf4 (fun j h => ⟨h.1, h.2⟩))
     have hres4 := Aside0.mk (hf4.heap (heap_below hb3 hres.out) (fun h => by have := hwC.out; have := h.1; omega))
     have hB4 := Aside0.mk (hB3.trans (hf4.below (B := w.heap.size) hB3.size (fun j _ h => by have := hwC.out; have := h.1; omega)))
     replace hq4 := Aside0.mk hq4
     clear hE hQ hres hB hE3 hB3 hf4 hb3
     go_wp2_with fail
     go_roundg (fs.length - (k + 1))
     case rel => exact ⟨k + 1, n + 1, by omega, by go_num, ⟨rfl⟩, ⟨by have := hn2.out; omega⟩, hE4, hq4, hres4, hB4⟩
     case measure => have := hg2.out; omega
    ·obtain rfl : k = fs.length := by omega
     go_wp2_with fail
     have hU : ∀ (o1 o2 o3 : Obj), (((wr.alloc o1).alloc o2).alloc o3).heap[wr.heap.size]? = some o1 ∧ (((wr.alloc o1).alloc o2).alloc o3).heap[wr.heap.size + 1 + 1]? = some o3 ∧ Below wr.heap.size wr (((wr.alloc o1).alloc o2).alloc o3) := fun o1 o2 o3 =>
      ⟨heap_old (heap_old (heap_new wr o1) o2) o3, by have := heap_new ((wr.alloc o1).alloc o2) o3; simpa using this, below_alloc (below_alloc (below_alloc (Below.refl _ _) _) _) _⟩
     have hU := hU (urlV ⟨#[]⟩ ⟨#[]⟩) (.map #[] 0) (reqV wr.heap.size (wr.heap.size + 1) 0)
     unfold urlV reqV at hU
     generalize ((wr.alloc (.cells #[.string ⟨#[]⟩, .string ⟨#[]⟩, .pointer none, .string ⟨#[]⟩, .string ⟨#[]⟩, .string ⟨#[]⟩, .string ⟨#[]⟩, .string ⟨#[]⟩, .string ⟨#[]⟩, .bool false, .bool false] 89)).alloc (.map #[] 0)).alloc (.cells #[.string ⟨#[]⟩, .pointer (some ⟨wr.heap.size, 0, none⟩), .string ⟨#[]⟩, .map (some (wr.heap.size + 1)), .int .i64 0] 91) = w5 at *
     obtain ⟨hU1, hU2, hb5⟩ := hU
     have hE5 := hE.out.calm hb5
     have hltE := hE.out.lt
     have hQ5 := (hQ.out.reC (X' := fun j => j = eb ∨ j = wr.heap.size ∨ j = wr.heap.size + 1 + 1 ∨ j = w.heap.size) (fun j hj => by
      rcases hj with e | e | e | e
      ·exact .inl e
      ·exact .inr (.inl (by omega))
      ·exact .inr (.inl (by omega))
      ·exact .inr (.inr (by have := hwC.out; omega)))).calm hb5
     have henc5 := henc.out C eb qm mh n _ (wr.heap.size + 1 + 1) wr.heap.size w5 hE5 hQ5 (.inr (.inl rfl)) (.inr (.inr (.inl rfl))) (.inl rfl) hU2 hU1
     refine henc5.mono ?_
     rintro e w6 ⟨rfl, k1, k2, hq6, hf6⟩
     unfold urlV at k1
     unfold reqV at k2
     have hres6 : w6.heap[w.heap.size]? = some resV := hf6.heap (heap_below hb5 hres.out) (fun e => by have h1 := lt_of hres.out; have h2 := hq6.geB; have h3 := hwC.out; omega)
     have hB56 : Below w.heap.size w w6 := (below_then hB.out hB.out.size hb5).trans (hf6.below (B := w.heap.size) (by have := hB.out.size; have := hb5.size; omega) (fun j _ e => by have h1 := lt_of hres.out; have h2 := hq6.geB; have h3 := hwC.out; omega))
     have hT6 : Tab w6 := hTab.out.below hB56 hTab.out.lt
     obtain ⟨X6, hX6⟩ : ∃ X : Nat → Prop, X = (fun j => j = eb ∨ j = wr.heap.size ∨ j = wr.heap.size + 1 + 1 ∨ j = w.heap.size) := ⟨_, rfl⟩
     rw [← hX6] at hq6
     have hXr : X6 w.heap.size := by rw [hX6]; exact .inr (.inr (.inr rfl))
     unfold resV at hres6
     have hG6 : GH w.heap.size C mh n X6 Tf w6 w6 := ⟨hq6, hT6, ⟨_, by rfl, hres6⟩, Fr.refl _ _⟩
     have q1 := cell_at k2 1; have q3 := cell_at k2 3; have q4 := cell_at k2 4
     have p4 := cell_at k1 4; have p6 := cell_at k1 6; have p7 := cell_at k1 7
     simp at q1 q3 q4 p4 p6 p7
     have hGd : ∀ w', GH w.heap.size C mh n X6 Tf w6 w' → GH w.heap.size C mh n X6 Tf w6 w'.drew := fun w' h => h.drew
     have hGs : ∀ w' v0 v1 v2 v3 v4 v5, GH w.heap.size C mh n X6 Tf w6 w' → GH w.heap.size C mh n X6 Tf w6 ((((((w'.setCell ⟨w.heap.size, 0, none⟩ v0).setCell ⟨w.heap.size, 1, none⟩ v1).setCell ⟨w.heap.size, 2, none⟩ v2).setCell ⟨w.heap.size, 3, none⟩ v3).setCell ⟨w.heap.size, 4, none⟩ v4).setCell ⟨w.heap.size, 5, none⟩ v5) := fun w' v0 v1 v2 v3 v4 v5 h => (((((h.set hXr 0 v0).set hXr 1 v1).set hXr 2 v2).set hXr 3 v3).set hXr 4 v4).set hXr 5 v5
     have hlt6 : Aside0 (w.heap.size < w6.heap.size) := .mk (lt_of hres6)
     have hltw : Aside0 (w.heap.size < wr.heap.size) := .mk (lt_of hres.out)
     have hn6 : Aside0 (n ≤ 1000000) := .mk (by have := hn2.out; omega)
     replace hshf := Aside0.mk hshf
     replace hB56 := Aside0.mk hB56
     replace hX6 := Aside0.mk hX6
     clear hres6 hT6 k1 k2 hf6 hq6 hE5 hQ5 henc5 hU1 hU2 hb5 hE hQ hres hB hltE
     go_wp2_with fail
     generalize hub : wr.heap.size = ub at *
     generalize hrb : ub + 1 + 1 = rb at *
     have hn1 : ¬ w.heap.size = ub := by have := hltw.out; omega
     have hn2' : ¬ w.heap.size = rb := by have := hltw.out; omega
     replace hub := Aside0.mk hub; replace hrb := Aside0.mk hrb
     go_region_held3 (fun w' => w'.cell? ⟨rb, 1, none⟩ = some (.pointer (some ⟨ub, 0, none⟩)) ∧ w'.cell? ⟨rb, 3, none⟩ = some (.map (some mh)) ∧ w'.cell? ⟨rb, 4, none⟩ = some (.int .i64 N) ∧ w'.cell? ⟨ub, 4, none⟩ = some (.string ⟨#[47]⟩) ∧ w'.cell? ⟨ub, 6, none⟩ = some (.string ⟨#[]⟩) ∧ w'.cell? ⟨ub, 7, none⟩ = some (.string ⟨#[47]⟩) ∧ GH w.heap.size C mh n X6 Tf w6 w') ((simp [*, World.cell?_setCell_far]; done)) (first | ((go_at_call 48; have hSS : _ ∧ _ ∧ _ ∧ _ ∧ _ ∧ _ ∧ GH w.heap.size C mh n X6 Tf w6 _ := (by assumption); obtain ⟨s1, s3, s4, t4, t6, t7, sG⟩ := hSS; refine (epS ub _ sG.tab t4 t7).mono ?_; rintro e w8 ⟨rfl, hb8⟩; have hG7 := GH.call sG hb8; have q1 := cell_later hb8 s1; have q3 := cell_later hb8 s3; have q4 := cell_later hb8 s4; have p4 := cell_later hb8 t4; have p6 := cell_later hb8 t6; have p7 := cell_later hb8 t7; clear s1 s3 s4 t4 t6 t7 sG; obtain ⟨v0, v1, v2, v3, v4, v5, hcs⟩ := hG7.cells; have z0 := cell_at hcs 0; have z1 := cell_at hcs 1; have z2 := cell_at hcs 2; have z3 := cell_at hcs 3; have z4 := cell_at hcs 4; have z5 := cell_at hcs 5; have y0 := free_of hcs 0; have y1 := free_of hcs 1; have y2 := free_of hcs 2; have y3 := free_of hcs 3; have y4 := free_of hcs 4; have y5 := free_of hcs 5; simp at z0 z1 z2 z3 z4 z5; replace hcs := Aside0.mk hcs; replace hb8 := Aside0.mk hb8)) | ((go_at_call 49; have hSS : _ ∧ _ ∧ _ ∧ _ ∧ _ ∧ _ ∧ GH w.heap.size C mh n X6 Tf w6 _ := (by assumption); obtain ⟨s1, s3, s4, t4, t6, t7, sG⟩ := hSS; refine (sortedQ_call sG.map hshf.out hn6.out).mono ?_; rintro e w9 ⟨A, c, l, rfl, hlc, hF, hsrt, hlk, hb9⟩; have hFF := Aside0.mk (Kd.F_mono hF (fun k hk => (show w.heap.size < k by have h1 := sG.fr.size; have h2 := hlt6.out; omega))); have hG7 := GH.call sG hb9; have q1 := cell_later hb9 s1; have q3 := cell_later hb9 s3; have q4 := cell_later hb9 s4; have p4 := cell_later hb9 t4; have p6 := cell_later hb9 t6; have p7 := cell_later hb9 t7; clear s1 s3 s4 t4 t6 t7 sG hF; obtain ⟨v0, v1, v2, v3, v4, v5, hcs⟩ := hG7.cells; have z0 := cell_at hcs 0; have z1 := cell_at hcs 1; have z2 := cell_at hcs 2; have z3 := cell_at hcs 3; have z4 := cell_at hcs 4; have z5 := cell_at hcs 5; have y0 := free_of hcs 0; have y1 := free_of hcs 1; have y2 := free_of hcs 2; have y3 := free_of hcs 3; have y4 := free_of hcs 4; have y5 := free_of hcs 5; simp at z0 z1 z2 z3 z4 z5; replace hcs := Aside0.mk hcs; replace hb9 := Aside0.mk hb9; replace hsrt := Aside0.mk hsrt; replace hlk := Aside0.mk hlk; replace hlc := Aside0.mk hlc)))
     all_goals
      go_wp2
      (try simp only [Exit.inBlock, Exit.then])
      refine bodyPost_ret (v := .tuple #[.agg #[.string ⟨#[47]⟩, .string ⟨#[47]⟩, .string ⟨#[47]⟩, .string ⟨#[]⟩, .slice A l.length c, .int .i64 N], .bool true]) ?_ rfl ⟨A, c, l, rfl, hlc.out, ?_, hsrt.out, hlk.out, ?_⟩
      ·rw [results_cell_tmp rfl]; go_simp
      ·first
        | exact Kd.F_now (Kd.F_step hFF.out (fun k hk hlt => (stores_fr w9 w.heap.size _ _ _ _ _ _).block k hlt (fun e => by omega)))
        | exact Kd.F_now (Kd.F_step (Kd.F_below hFF.out hb8.out) (fun k hk hlt => (stores_fr w8 w.heap.size _ _ _ _ _ _).block k hlt (fun e => by omega)))
      ·have hSS : _ ∧ _ ∧ _ ∧ _ ∧ _ ∧ _ ∧ GH w.heap.size C mh n X6 Tf w6 _ := (by assumption)
       have := hSS.2.2.2.2.2.2.fr.below (B := w.heap.size) hB56.out.size (fun k _ h => by omega)
       exact hB56.out.trans this
end HH
end Go.Proofs.YtclmjmfcggkpaaaGreatDoor
