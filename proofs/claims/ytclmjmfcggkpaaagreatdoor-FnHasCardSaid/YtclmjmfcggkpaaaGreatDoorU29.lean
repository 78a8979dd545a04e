import Derived.Test.YtclmjmfcggkpaaaGreatDoorU26
set_option linter.unusedVariables false
set_option linter.unusedSimpArgs false
namespace Go.Proofs.YtclmjmfcggkpaaaGreatDoor
open Go.RowKit Go.Proofs.YtclmjmfcggkpaaaGreatDoorW.PrintWords Go.Proofs.YtclmjmfcggkpaaaGreatDoorW.PrintLast Go.Proofs.YtclmjmfcggkpaaaGreatDoorW.PrintMore
open PX
open Go.ChangeMaps (setBlock)
namespace HH
open H
/-! ### Header.Clone -/
theorem empty_row (W : World) : Kd.string.R 9 (W.alloc (.cells #[] 9)) W.heap.size (fun k => W.heap.size ≤ k) (.slice (some ⟨W.heap.size, 0, none⟩) 0 0) [] := by
 refine ⟨fun k hk => ?_, [], ?_, ?_⟩
 ·have : W.heap.size = k := by simpa [Value.ownBlock] using hk
  omega
 ·have h2 := World.ownsRow_lit (base := W.heap.size) (e := 9) (size := 1) W #[] 0 (Nat.le_refl _) (by simp [maxLen]) (by simp)
  have h3 : (W.alloc (.cells #[] 9)).ownsRow W.heap.size 9 1 (.slice (some ⟨W.heap.size, 0, none⟩) 0 0) 0 [] := by simpa using h2
  exact h3
 ·exact Reps.none _ _
theorem append_copy {ops : Array Oper} {rest : List Oper} {o : Oper} {a : Act} {Q : Exit → Act → World → Prop} {W : World} (hgd : o.guard = none) (s x : Operand)
 (ho : o.op = .call { callee := .builtin .append, args := #[s, x], argTypes := #[67, 67] }) (ys : List ByteArray) (A : Option Addr) (c : Nat)
 (hs : a.eval s = .slice (some ⟨W.heap.size, 0, none⟩) 0 0) (hx : a.eval x = .slice A ys.length c) (hr : Kd.string.C W A ys.length ys) (hl : ys.length ≤ 1000000)
 (h : ∀ v1 w1, Kd.string.R 9 w1 W.heap.size (fun _ => True) v1 ys → Below W.heap.size W w1 → wpList Tryz.prog ops Q rest (a.put o.dst v1) w1) :
 wpList Tryz.prog ops Q (o :: rest) a (W.alloc (.cells #[] 9)) := by
 have hb := below_alloc (Below.refl W.heap.size W) (.cells #[] 9)
 refine Kd.R_append_rows Kd.string (w0 := W) W.heap.size hgd s x 67 9 (.string ⟨#[]⟩) 16 ho Tryz.underlying67 inf9 rfl (by decide) (by omega) _ [] ys A ys.length c (fun k => W.heap.size ≤ k) (fun _ => False) hs hx (empty_row W) (Kd.C_below hr hb) (fun _ _ h => h) (fun _ hk => hk.elim) (fun k hk => by have := hb.size; omega) hb hb.size (by simp; omega) ?_
 intro v1 w1 hR hB _ _
 exact h v1 w1 (Kd.R_mono hR (fun _ _ => trivial)) hB
/-- An iterator over the map at block m. -/
structure Itr (m r since : Nat) (seen : Array Nat) (w : World) : Prop where
 out : ∃ c0, w.heap[r]? = some (.mapIter (some m) since seen c0) ∧ since ≤ c0
theorem Itr.step {B m r : Nat} {X : Nat → Prop} {rs : List MR} {clock : Nat} {seen : Array Nat} {w : World} (H : HMr B X m rs clock w) (h : Itr m r clock seen w) :
 ((leftOf (rs.map MR.ent).toArray seen).size = 0 ∧ (Instr.next (.pointer (some ⟨r, 0, none⟩)) false 0).run Tryz.prog w = .ok (.tuple #[.bool false]) w) ∨
 ∃ a ∈ rs, ∃ w2 : World, seen.contains a.born = false ∧ (leftOf (rs.map MR.ent).toArray (seen.push a.born)).size < (leftOf (rs.map MR.ent).toArray seen).size ∧
  (Instr.next (.pointer (some ⟨r, 0, none⟩)) false 0).run Tryz.prog w = .ok (.tuple #[.bool true, .string a.key, a.val]) w2 ∧
  (Instr.entry (.pointer (some ⟨r, 0, none⟩))).run Tryz.prog w2 = .ok (.tuple #[.string a.key, a.val]) w2 ∧ Itr m r clock (seen.push a.born) w2 ∧ Fr (fun k => k = r) w w2 := by
 obtain ⟨c0, hr, hsc⟩ := h.out
 have hne : r ≠ m := by rintro rfl; have := H.obj; rw [hr] at this; cases this
 have hold : ∀ x ∈ (rs.map MR.ent).toArray.toList, x.born < clock := by
  intro x hx
  obtain ⟨a, ha, rfl⟩ := ent_of hx
  exact H.below a ha
 have hborn : ((rs.map MR.ent).toArray.toList.map (·.born)).Nodup := by
  have : (rs.map MR.ent).toArray.toList.map (·.born) = rs.map MR.born := by simp [MR.ent, Function.comp_def]
  rw [this]; exact H.born
 rcases run_next_at (P := Tryz.prog) w 0 r m clock c0 seen _ clock hr H.obj hold hsc with h0 | ⟨e, he, w1, hw1, hrun⟩
 ·exact .inl h0
 ·obtain ⟨he1, he2⟩ := mem_left he
  obtain ⟨a, ha, rfl⟩ := ent_of he1
  have hr1 : w1.heap[r]? = some (.mapIter (some m) clock seen c0) := by rcases hw1 with rfl | rfl <;> exact hr
  have hm1 : w1.heap[m]? = some (.map (rs.map MR.ent).toArray clock) := by rcases hw1 with rfl | rfl <;> exact H.obj
  have hr2 := at_setBlock hr1 (.mapIter (some m) clock (seen.push a.born) clock)
  have hm2 : (setBlock w1 r (.mapIter (some m) clock (seen.push a.born) clock)).heap[m]? = some (.map (rs.map MR.ent).toArray clock) := by
   rw [← hm1]
   show (w1.heap.setIfInBounds r _)[m]? = _
   simp [hne]
  refine .inr ⟨a, ha, setBlock w1 r (.mapIter (some m) clock (seen.push a.born) clock), he2, left_shrinks _ _ _ he, hrun, ?_, ⟨clock, hr2, Nat.le_refl _⟩, ?_⟩
  ·exact run_entry_at _ r m clock seen _ clock a.ent hr2 hm2 he1 hborn
  ·have hf : Fr (fun k => k = r) w w1 := by rcases hw1 with rfl | rfl; exact Fr.refl _ _; exact (Fr.refl _ _).drew
   exact hf.trans (fr_setBlock (S := fun k => k = r) w1 r _ (.inl rfl)) (fun _ _ h => h)
theorem Itr.fr {m r since : Nat} {seen : Array Nat} {w w' : World} {S : Nat → Prop} (h : Itr m r since seen w) (hf : Fr S w w') {B m' clock : Nat} {X : Nat → Prop} {os : List MR} (hO : HMr B X m' os clock w) (hS : ∀ k, S k → k = m') : Itr m r since seen w' := by
 obtain ⟨c0, hr, hs⟩ := h.out
 exact ⟨c0, hf.heap hr (fun e => by have := hS r e; subst this; have := hO.obj; rw [hr] at this; cases this), hs⟩
theorem Itr.start {B m : Nat} {X : Nat → Prop} {rs : List MR} {clock : Nat} {w : World} (H : HMr B X m rs clock w) :
 (Instr.range 76 (.map (some m))).run Tryz.prog w = .ok (.pointer (some ⟨w.heap.size, 0, none⟩)) (w.alloc (.mapIter (some m) clock #[] clock)) ∧ Itr m w.heap.size clock #[] (w.alloc (.mapIter (some m) clock #[] clock)) :=
 ⟨run_range_map (P := Tryz.prog) w 76 9 67 m _ clock Tryz.underlying76 H.obj, ⟨clock, heap_new w _, Nat.le_refl _⟩⟩
theorem left_start (rs : List MR) : (leftOf (rs.map MR.ent).toArray #[]).size ≤ rs.length := by
 unfold leftOf
 refine Nat.le_trans Array.size_filter_le ?_
 simp
theorem HMr.made (w : World) (X : Nat → Prop) (hX : ∀ k, X k → k < w.heap.size) : HMr w.heap.size X w.heap.size [] 0 (w.alloc (.map #[] 0)) :=
 ⟨heap_new w _, (fun _ h => by cases h), List.nodup_nil, List.nodup_nil, (fun _ h => by cases h), List.Pairwise.nil, Nat.le_refl _, (fun h => by have := hX _ h; omega)⟩
/-- An iterator's turning leaves a map as it was. -/
theorem HMr.iter {B m clock r : Nat} {X : Nat → Prop} {rs : List MR} {w w' : World} (H : HMr B X m rs clock w) {a : Option Nat} {b d : Nat} {s : Array Nat} (hr : w.heap[r]? = some (.mapIter a b s d)) (hf : Fr (fun k => k = r) w w') : HMr B X m rs clock w' := by
 refine H.fr hf (fun e => ?_) (fun q hq k hk e => ?_)
 ·subst e; have := H.obj; rw [hr] at this; cases this
 ·subst e
  obtain ⟨inner, ho⟩ := Kd.R_own (H.rows q hq)
  obtain ⟨cells, hc⟩ := own_typed ho k hk
  rw [hr] at hc; cases hc
/-- A row's value. -/
theorem HMr.val {B m clock : Nat} {X : Nat → Prop} {rs : List MR} {w : World} (H : HMr B X m rs clock w) {r : MR} (hr : r ∈ rs) :
 (r.val = .slice none 0 0 ∧ r.xs = []) ∨ ∃ g c, r.val = .slice (some ⟨g, 0, none⟩) r.xs.length c ∧ r.xs.length ≤ c ∧ Kd.string.C w (some ⟨g, 0, none⟩) r.xs.length r.xs := by
 have hR := H.rows r hr
 obtain ⟨A, c, hv, hle, hC⟩ := Kd.R_reads hR
 obtain ⟨inner, ho⟩ := Kd.R_own hR
 rcases ho.2 with ⟨e, h0⟩ | ⟨g, cap, cur, e, _⟩
 ·exact .inl ⟨e, List.eq_nil_of_length_eq_zero h0⟩
 ·rw [hv] at e
  injection e with e1 e2 e3
  subst e1
  exact .inr ⟨g, c, hv, hle, hC⟩
set_option maxHeartbeats 2000000 in
set_option maxRecDepth 100000 in
theorem clone_call {B m clock : Nat} {X : Nat → Prop} {rs : List MR} (w : World) (H : HMr B X m rs clock w) (hx : ∀ r ∈ rs, r.xs.length ≤ 1000000) (X' : Nat → Prop) (hX' : ∀ k, X' k → k < w.heap.size) :
 Calls Tryz.prog 99 #[.map (some m)] w fun e w' => e = .returned (.map (some w.heap.size)) ∧ HMq w.heap.size X' w.heap.size rs.length (lk (rs.map MR.hd)) w' ∧ Below w.heap.size w w' := by
 have hmm := @run_makeMap Tryz.prog
 have hqs := fun (w : World) (a : Option Addr) (n c : Nat) => Lib.run_eql_slice_nil (P := Tryz.prog) w 67 _ a n c 0 0 Tryz.underlying67
 have hq := run_eql_map_nil (P := Tryz.prog) w 76 _ _ (some m) Tryz.underlying76
 have hb0 := below_alloc (Below.refl w.heap.size w) (.map #[] 0)
 have H0 := H.calm hb0
 have hO0 := HMr.made w X' hX'
 have hst := Itr.start H0
 simp only [World.size_alloc] at hst
 have hrg := hst.1
 have hI0 := hst.2
 have hbI := below_alloc (Below.refl (w.alloc (.map #[] 0)).heap.size (w.alloc (.map #[] 0))) (.mapIter (some m) clock #[] clock)
 have hOI : Aside0 (HMr w.heap.size X' w.heap.size [] 0 ((w.alloc (.map #[] 0)).alloc (.mapIter (some m) clock #[] clock))) := .mk (hO0.calm hbI)
 have hHI : Aside0 (HMr B X m rs clock ((w.alloc (.map #[] 0)).alloc (.mapIter (some m) clock #[] clock))) := .mk (H0.calm hbI)
 have hbb : Aside0 (Below w.heap.size w ((w.alloc (.map #[] 0)).alloc (.mapIter (some m) clock #[] clock))) := .mk (below_alloc hb0 _)
 replace hI0 := Aside0.mk hI0
 clear hst H0 hO0 hb0 hbI
 have hH := Aside0.mk H
 clear H
 go_enter Tryz.func99, Tryz.ntmps99
 go_wp2_with fail
 generalize (w.alloc (.map #[] 0)).alloc (.mapIter (some m) clock #[] clock) = W0 at *
 have hrB : Aside0 (w.heap.size ≤ w.heap.size + 1) := .mk (Nat.le_succ _)
 generalize hmo : w.heap.size = mo at *
 generalize mo + 1 = r at *
 go_loopg [4, 5] rs.length (fun g v4 v5 w' => ∃ (seen : Array Nat) (os : List MR) (oc : Nat), Aside0 ((leftOf (rs.map MR.ent).toArray seen).size ≤ g) ∧ Aside0 (Itr m r clock seen w') ∧ Aside0 (HMr mo X' mo os oc w') ∧ Aside0 (∀ k, lk (os.map MR.hd) k = told rs seen k) ∧ Aside0 (os.length + (leftOf (rs.map MR.ent).toArray seen).size ≤ rs.length) ∧ Aside0 (Below mo w w'))
 case atStart => exact ⟨#[], [], 0, ⟨left_start rs⟩, hI0, hOI, ⟨fun k => (told_start rs k).symm⟩, ⟨by simpa using left_start rs⟩, hbb⟩
 case round =>
  clear hI0 hOI hbb hHI hmm hq hrg
  obtain ⟨seen, os, oc, hg, hI, hO, hT, hL, hB⟩ := hrel
  have hHw := hH.out.calm (by rw [hmo]; exact hB.out)
  rcases Itr.step hHw hI.out with ⟨h0, hrun⟩ | ⟨a, ha, w2, hs, hlt, hrun, hent, hI2, hF2⟩
  ·have hend := Aside0.mk (fun k => (hT.out k).trans (told_end h0 k))
   have hol : Aside0 (os.length ≤ rs.length) := .mk (by have := hL.out; omega)
   clear hHw h0
   go_wp2
   go_ret
   subst hmo
   exact ⟨rfl, ⟨os, oc, hO.out, hend.out, hol.out⟩, hB.out⟩
  ·obtain ⟨c0, hr0, _⟩ := hI.out.out
   have hO2 := Aside0.mk (hO.out.iter hr0 hF2)
   have hH2 := hHw.iter hr0 hF2
   have hr2 : Aside0 (mo ≤ r) := hrB
   have hB2 : Aside0 (Below mo w w2) := .mk (hB.out.trans ⟨hF2.os, hF2.tape, hF2.output, hF2.size, fun k hk => hF2.block k (by have := hB.out.size; have := hmo; omega) (by have := hrB.out; omega)⟩)
   have hne : Aside0 (∀ b ∈ os, b.key ≠ a.key) := .mk (by
    have h1 := hT.out a.key
    rw [told_none hH.out.keys ha hs] at h1
    exact (lk_none a.key).1 h1)
   have hT2 : Aside0 (∀ (v : Value) (xs : List ByteArray) (k : ByteArray), xs = a.xs → lk ((os ++ [(⟨a.key, v, xs, oc⟩ : MR)]).map MR.hd) k = told rs (seen.push a.born) k) := .mk (fun v xs k e => by
    rw [lk_push (r := ⟨a.key, v, xs, oc⟩) (fun b hb => hne.out b hb) k, told_step hH.out.keys hH.out.born ha k, hT.out k, e])
   have hlen := hx a ha
   have hval := hH2.val ha
   replace hlt := Aside0.mk hlt
   replace hI2 := Aside0.mk hI2
   replace hs := Aside0.mk hs
   clear hHw hH2 hF2 hr0
   rcases hval with ⟨hv, hxs⟩ | ⟨g1, c1, hv, hle, hC⟩
   ·rw [hv] at hrun hent
    have hup := run_update_new hO2.out.obj a.key (.slice none 0 0) a.xs hne.out
    have hO3 := hO2.out.push (w1 := w2) (row := none) (World.grownBy.refl w2 none) (fun k hk => by cases hk) hne.out (by rw [hxs]; exact Kd.R_nil _ _ _ _ _) (fun k hk => by simp [Value.ownBlock] at hk) (v := .slice none 0 0) (xs := a.xs)
    replace hO3 := Aside0.mk hO3
    have hB3 : Aside0 (Below mo w (setBlock w2 mo (.map ((os ++ [(⟨a.key, .slice none 0 0, a.xs, oc⟩ : MR)]).map MR.ent).toArray (oc + 1)))) := .mk (hB2.out.trans ((fr_setBlock (S := fun k => k = mo) w2 mo _ (.inl rfl)).below (by have := hB2.out.size; have := hO2.out.lt; omega) (fun k _ e => by omega)))
    have hI3 : Aside0 (Itr m r clock (seen.push a.born) (setBlock w2 mo (.map ((os ++ [(⟨a.key, .slice none 0 0, a.xs, oc⟩ : MR)]).map MR.ent).toArray (oc + 1)))) := .mk (hI2.out.fr (fr_setBlock (S := fun k => k = mo) w2 mo _ (.inl rfl)) hO2.out (fun _ h => h))
    replace hT2 : Aside0 (∀ k, lk ((os ++ [(⟨a.key, .slice none 0 0, a.xs, oc⟩ : MR)]).map MR.hd) k = told rs (seen.push a.born) k) := .mk (fun k => hT2.out _ _ k rfl)
    generalize setBlock w2 mo (.map ((os ++ [(⟨a.key, .slice none 0 0, a.xs, oc⟩ : MR)]).map MR.ent).toArray (oc + 1)) = w3 at *
    go_wp2_with fail
    go_roundg ((leftOf (rs.map MR.ent).toArray (seen.push a.born)).size)
    case rel => exact ⟨seen.push a.born, _, _, ⟨Nat.le_refl _⟩, hI3, hO3, hT2, ⟨by have := hL.out; have := hlt.out; simp; omega⟩, hB3⟩
    case measure => have := hg.out; have := hlt.out; omega
   ·rw [hv] at hrun hent
    replace hC := Aside0.mk hC
    go_wp2_with ((with_reducible refine gate_builtin (b := .append) (xs := #[.tmp 22, .tmp 23]) rfl ?_); at_builtin; refine append_copy rfl (.tmp 22) (.tmp 23) rfl a.xs (some ⟨g1, 0, none⟩) c1 rfl rfl hC.out hlen ?_; intro v1 w3 hR hb3; have hup := run_update_new (heap_below hb3 hO2.out.obj) a.key v1 a.xs hne.out; have hO3 := hO2.out.push (w1 := w3) (row := none) (grown_of_below hb3 none) (fun k hk => by cases hk) hne.out (Kd.R_reok (by rfl) (Kd.R_lower hR (by have := hB2.out.size; have := hO2.out.lt; omega)) (fun k hk hX => by have h1 := own_base (Kd.R_own hR).choose_spec k hk; have h2 := hX' k hX; have := hO2.out.lt; omega)) (fun k hk => own_base (Kd.R_own hR).choose_spec k hk); replace hb3 := Aside0.mk hb3; replace hO3 := Aside0.mk hO3; clear hR)
    have hB4 : Aside0 (Below mo w (setBlock w3 mo (.map ((os ++ [(⟨a.key, v1, a.xs, oc⟩ : MR)]).map MR.ent).toArray (oc + 1)))) := .mk (hB2.out.trans ((hb3.out.mono (by have := hO2.out.lt; omega)).trans ((fr_setBlock (S := fun k => k = mo) w3 mo _ (.inl rfl)).below (by have := hb3.out.size; have := hO2.out.lt; omega) (fun k _ e => by omega))))
    have hI4 : Aside0 (Itr m r clock (seen.push a.born) (setBlock w3 mo (.map ((os ++ [(⟨a.key, v1, a.xs, oc⟩ : MR)]).map MR.ent).toArray (oc + 1)))) := .mk ((hI2.out.fr (Fr.of_below (S := fun _ => False) hb3.out) hO2.out (fun _ h => h.elim)).fr (fr_setBlock (S := fun k => k = mo) w3 mo _ (.inl rfl)) (hO2.out.calm hb3.out) (fun _ h => h))
    replace hT2 : Aside0 (∀ k, lk ((os ++ [(⟨a.key, v1, a.xs, oc⟩ : MR)]).map MR.hd) k = told rs (seen.push a.born) k) := .mk (fun k => hT2.out _ _ k rfl)
    simp only [List.map_append, List.map_cons, List.map_nil] at hI4 hB4 hO3
    go_roundg ((leftOf (rs.map MR.ent).toArray (seen.push a.born)).size)
    case rel => exact ⟨seen.push a.born, _, _, ⟨Nat.le_refl _⟩, hI4, hO3, hT2, ⟨by have := hL.out; have := hlt.out; simp; omega⟩, hB4⟩
    case measure => have := hg.out; have := hlt.out; omega
end HH
end Go.Proofs.YtclmjmfcggkpaaaGreatDoor
