import Derived.Test.YtclmjmfcggkpaaaGreatDoorQ25
set_option linter.unusedVariables false
set_option linter.unusedSimpArgs false
namespace Go.Proofs.YtclmjmfcggkpaaaGreatDoor
open Go.RowKit Go.Proofs.YtclmjmfcggkpaaaGreatDoorW.PrintWords Go.Proofs.YtclmjmfcggkpaaaGreatDoorW.PrintLast Go.Proofs.YtclmjmfcggkpaaaGreatDoorW.PrintMore
open PX
open Go.ChangeMaps (setBlock)
namespace HH
open H
/-! ### impl.sorted -/
theorem SO.iter {B r : Nat} {v : Value} {ps : List (S73 × Value)} {w w' : World} (h : SO B v ps w) {a : Option Nat} {b d : Nat} {s : Array Nat} (hr : w.heap[r]? = some (.mapIter a b s d)) (hf : Fr (fun k => k = r) w w') : SO B v ps w' := by
 refine ⟨hf.own h.own (fun k hk e => ?_), fun p hp => ?_⟩
 ·subst e
  obtain ⟨cells, hc⟩ := own_typed h.own k hk
  rw [hr] at hc; cases hc
 ·have hR := h.inn p hp
  refine Kd.R_mono (Kd.R_step (Kd.R_tight (by rfl) hR) (fun k hk hlt => hf.block k hlt (fun e => ?_))) (fun _ _ => trivial)
  subst e
  obtain ⟨inner, ho⟩ := Kd.R_own hR
  obtain ⟨cells, hc⟩ := own_typed ho k hk.symm
  rw [hr] at hc; cases hc
theorem Itr.grow {m r since : Nat} {seen : Array Nat} {w w1 : World} {v : Value} (h : Itr m r since seen w) (hg : w.grownBy w1 v.ownBlock) {B : Nat} {ps : List (S73 × Value)} (hO : SO B v ps w) : Itr m r since seen w1 := by
 obtain ⟨c0, hr, hs⟩ := h.out
 refine ⟨c0, (hg.block r (lt_of hr) (fun e => ?_)).trans hr, hs⟩
 obtain ⟨cells, hc⟩ := own_typed hO.own r e.symm
 rw [hr] at hc; cases hc
theorem Itr.row {m r since g : Nat} {seen : Array Nat} {w w1 : World} {cs : Array Value} {t : TypeId} {f : Nat × Nat} (h : Itr m r since seen w) (hf : Fr (· = g) w w1) (hg : w.heap[g]? = some (.cells cs t f)) : Itr m r since seen w1 := by
 obtain ⟨c0, hr, hs⟩ := h.out
 exact ⟨c0, hf.heap hr (fun e => by subst e; rw [hr] at hg; cases hg), hs⟩
theorem Itr.calm {m r since : Nat} {seen : Array Nat} {w w1 : World} (h : Itr m r since seen w) (hb : Below w.heap.size w w1) : Itr m r since seen w1 := by
 obtain ⟨c0, hr, hs⟩ := h.out
 exact ⟨c0, heap_below hb hr, hs⟩
theorem wr64 (j : Nat) (h : j ≤ 1000000000) : IntKind.i64.wrap ((j : Int) + 1) = (j : Int) + 1 := by
 simp [IntKind.wrap, IntKind.bits, IntKind.signed]; omega
theorem SO.cell_ex {B g cap n : Nat} {ps : List (S73 × Value)} {w : World} (h : SO B (.slice (some ⟨g, 0, none⟩) n cap) ps w) (i : Nat) (hi : i < ps.length) :
 w.cell? ⟨g, i * 2, none⟩ = some (.string (ps[i]'hi).1.f0) ∧ w.cell? ⟨g, i * 2 + 1, none⟩ = some (ps[i]'hi).2 := by
 have h1 := h.own.cells (g := g) rfl
 obtain ⟨e1, e2⟩ := flat_get ps i _ (List.getElem?_eq_getElem hi)
 have := h1 _ _ e1
 have h3 := h1 _ _ e2
 rw [plain_add, Nat.zero_add] at this h3
 exact ⟨this, h3⟩
theorem SO.free {B g cap n : Nat} {ps : List (S73 × Value)} {w : World} (h : SO B (.slice (some ⟨g, 0, none⟩) n cap) ps w) (i : Nat) :
 w.frozen? ⟨g, i * 2, none⟩ = false ∧ w.frozen? ⟨g, i * 2 + 1, none⟩ = false := by
 obtain ⟨cells, hc⟩ := own_typed h.own g rfl
 exact ⟨free_of hc _, free_of hc _⟩
theorem SO.cells {B g cap n : Nat} {ps : List (S73 × Value)} {w : World} (h : SO B (.slice (some ⟨g, 0, none⟩) n cap) ps w) (hn : 0 < ps.length) :
 ∃ cur : List Value, w.heap[g]? = some (.cells cur.toArray 73 (0, 0)) ∧ cur.length = cap * 2 ∧ cur.take (ps.length * 2) = flat ps := by
 obtain ⟨h1, h3 | ⟨g', cap', cur', hv, a1, a2, a3, a4, a5, a6⟩⟩ := h.own
 ·omega
 injection hv with e1 e2 e3
 injection e1 with e1
 injection e1 with e1
 subst e1 e3
 exact ⟨cur'.toList, by simpa using a2, by simpa using a5, a6⟩
theorem cut31 (g n cap i : Nat) (hi : i ≤ n) (x : Int) (hx : x = (i : Int)) (W : World) : (Instr.slice 31 (.slice (some ⟨g, 0, none⟩) n cap) (some (.int .i64 x)) none none).run Tryz.prog W = .ok (.slice (if cap = i then some ⟨g, 0, none⟩ else some ⟨g, i * 2, none⟩) (n - i) (cap - i)) W := by
 subst hx
 have hel : Tryz.prog.elem 31 = 73 := by simp [Program.elem, Tryz.underlying31]
 have hu : Tryz.prog.underlying 31 = some (.slice (Tryz.prog.elem 31)) := by rw [hel]; exact Tryz.underlying31
 obtain ⟨k, hk, hz⟩ := Option.map_eq_some_iff.1 inf73
 simp only [Prod.mk.injEq] at hz
 rw [run_slice_l W 31 _ n cap hu .i64 (i : Int) (Int.natCast_nonneg _) (by omega), hel]
 simp [sizeOf, typeInfo, hk, hz, sliced, Result.andThen, plain_add]
theorem gtr_run (t : TypeId) (a b : ByteArray) (w : World) : (binOp .gtr t (.string a) (.string b)).run Tryz.prog w = .ok (.bool (kLt b a)) w := by
 have e : (!(Op.bytesLess a.toList b.toList || a.toList == b.toList)) = kLt b a := by
  by_cases h : a = b
  ·subst h
   rw [kLt_irrefl]
   simp
  ·have h1 : (a.toList == b.toList) = false := by
    rw [beq_eq_false_iff_ne]
    exact fun e => h (toList_inj e)
   rw [h1, Bool.or_false]
   show (!kLt a b) = kLt b a
   rcases kLt_tri h with h2 | h2
   ·rw [h2, kLt_asymm h2]; rfl
   ·rw [h2, kLt_asymm h2]; rfl
 rw [← e]
 simp [binOp, Op.stringOp]
theorem below_of {L : List S73} {k : ByteArray} {j : Nat} (h : srt L) (hj : j ≤ L.length) (h1 : ∀ (i : Nat) a, j ≤ i → L[i]? = some a → kLt k a.f0 = true) (h2 : j = 0 ∨ ∃ a, L[j - 1]? = some a ∧ kLt k a.f0 = false) (hn : ∀ a ∈ L, a.f0 ≠ k) : below L k = j := by
 induction L generalizing j with
 | nil => simp at hj; subst hj; rfl
 | cons b L ih =>
   obtain ⟨hb, hL⟩ := srt_cons.1 h
   rw [below_cons]
   by_cases hlt : kLt b.f0 k = true
   ·rw [if_pos hlt]
    have hj0 : 0 < j := by
     rcases Nat.eq_zero_or_pos j with h0 | h0
     ·subst h0
      have := h1 0 b (Nat.le_refl _) rfl
      rw [kLt_asymm this] at hlt; cases hlt
     ·exact h0
    obtain ⟨j, rfl⟩ : ∃ j', j = j' + 1 := ⟨j - 1, by omega⟩
    have := ih (j := j) hL (by simpa using hj) (fun i a hi ha => h1 (i + 1) a (by omega) (by simpa using ha)) (by
     rcases Nat.eq_zero_or_pos j with h0 | h0
     ·exact .inl h0
     ·rcases h2 with h2 | ⟨a, ha, hk⟩
      ·omega
      ·refine .inr ⟨a, ?_, hk⟩
       rw [show j + 1 - 1 = (j - 1) + 1 from by omega, List.getElem?_cons_succ] at ha
       exact ha) (fun a ha => hn a (List.mem_cons_of_mem _ ha))
    omega
   ·rw [if_neg hlt]
    rcases h2 with h2 | ⟨a, ha, hk⟩
    ·exact h2.symm
    ·have hkb : kLt k b.f0 = true := by
      rcases kLt_tri (hn b List.mem_cons_self) with h3 | h3
      ·exact absurd h3 hlt
      ·exact h3
     rcases Nat.eq_zero_or_pos j with h0 | h0
     ·exact h0.symm
     ·exfalso
      rcases Nat.eq_zero_or_pos (j - 1) with h4 | h4
      ·rw [h4] at ha
       obtain rfl := Option.some.inj ha
       rw [hkb] at hk; cases hk
      ·rw [show j - 1 = (j - 2) + 1 from by omega, List.getElem?_cons_succ] at ha
       have := kLt_trans hkb (hb a (List.mem_of_getElem? ha))
       rw [hk] at this; cases this
def insP (ps : List (S73 × Value)) (j : Nat) (q : S73 × Value) : List (S73 × Value) := ps.take j ++ q :: ps.drop j
theorem insP_fst (ps : List (S73 × Value)) (j : Nat) (q : S73 × Value) : (insP ps j q).map (·.1) = (ps.map (·.1)).take j ++ q.1 :: (ps.map (·.1)).drop j := by
 simp [insP, List.map_take, List.map_drop]
theorem insP_set (ps : List (S73 × Value)) (j : Nat) (hj : j ≤ ps.length) (q : S73 × Value) : ((ps ++ [pz]).take (j + 1) ++ ps.drop j).set j q = insP ps j q := by
 have e : (ps ++ [pz]).take (j + 1) = ps.take j ++ [((ps ++ [pz])[j]'(by simp; omega))] := by
  rw [List.take_succ_eq_append_getElem (by simp; omega), List.take_append_of_le_length hj]
 have hl : (ps.take j).length = j := by rw [List.length_take, Nat.min_eq_left hj]
 rw [e, List.append_assoc, List.set_append_right _ _ (by omega), hl, Nat.sub_self]
 rfl
set_option maxHeartbeats 2000000 in
set_option maxRecDepth 100000 in
theorem sorted_call {B m clock : Nat} {X : Nat → Prop} {rs : List MR} (w : World) (H : HMr B X m rs clock w) (hx : ∀ r ∈ rs, r.xs.length ≤ 1000000) (hn : rs.length ≤ 1000000) :
 Calls Tryz.prog 49 #[.map (some m)] w fun e w' => ∃ A c l, e = .returned (.slice A l.length c) ∧ l.length ≤ c ∧ Kd.F k73 w' (fun k => w.heap.size ≤ k) A l.length l ∧ srt l ∧ (∀ k, lk l k = lk (rs.map MR.hd) k) ∧ l.length ≤ rs.length ∧ Below w.heap.size w w' := by
 have hst := Itr.start H
 have hrg := hst.1
 have hI0 := hst.2
 have hbI := below_alloc (Below.refl w.heap.size w) (.mapIter (some m) clock #[] clock)
 replace hI0 := Aside0.mk hI0
 clear hst
 have hH := Aside0.mk H
 clear H
 have hbb := Aside0.mk hbI
 go_enter Tryz.func49, Tryz.ntmps49
 go_wp2_with fail
 generalize w.alloc (.mapIter (some m) clock #[] clock) = W0 at *
 clear hbI hrg
 go_loopg [3, 4, 5, 6] rs.length (fun g v3 v4 v5 v6 w' => ∃ (seen : Array Nat) (ps : List (S73 × Value)), Aside0 ((leftOf (rs.map MR.ent).toArray seen).size ≤ g) ∧ Aside0 (Itr m w.heap.size clock seen w') ∧ Aside0 (SO w.heap.size v3 ps w') ∧ Aside0 (srt (ps.map (·.1))) ∧ Aside0 (∀ k, lk (ps.map (·.1)) k = told rs seen k) ∧ Aside0 (ps.length + (leftOf (rs.map MR.ent).toArray seen).size ≤ rs.length) ∧ Aside0 (Below w.heap.size w w'))
 case atStart => exact ⟨#[], [], ⟨left_start rs⟩, hI0, ⟨SO.nil _ _⟩, ⟨List.Pairwise.nil⟩, ⟨fun k => (told_start rs k).symm⟩, ⟨by simpa using left_start rs⟩, hbb⟩
 case round =>
  clear hI0 hbb
  obtain ⟨seen, ps, hg, hI, hO, hS, hT, hL, hB⟩ := hrel
  have hHw := hH.out.calm hB.out
  rcases Itr.step hHw hI.out with ⟨h0, hrun⟩ | ⟨a, ha, w2, hs, hlt, hrun, hent, hI2, hF2⟩
  ·have hend := Aside0.mk (fun k => (hT.out k).trans (told_end h0 k))
   have hol : Aside0 (ps.length ≤ rs.length) := .mk (by have := hL.out; omega)
   clear hHw h0
   go_wp2
   go_ret
   obtain ⟨A, c, e, hc, hF⟩ := hO.out.read (by have := hol.out; omega)
   exact ⟨A, c, _, by simp only [e]; rfl, hc, hF, hS.out, hend.out, by rw [List.length_map]; exact hol.out, hB.out⟩
  ·obtain ⟨c0, hr0, _⟩ := hI.out.out
   have hltr := lt_of hr0
   have hH2 := hHw.iter hr0 hF2
   have hne0 : ∀ k, w.heap.size ≤ k → k < wr.heap.size → k ≠ w.heap.size → ¬ (fun k => k = w.heap.size) k := fun k _ _ h => h
   have hO2 : Aside0 (SO w.heap.size u3 ps w2) := .mk (hO.out.iter hr0 hF2)
   have hB2 : Aside0 (Below w.heap.size w w2) := .mk (hB.out.trans ⟨hF2.os, hF2.tape, hF2.output, hF2.size, fun k hk => hF2.block k (by have := hB.out.size; omega) (by omega)⟩)
   have hne : Aside0 (∀ b ∈ ps.map (·.1), b.f0 ≠ a.key) := .mk (by
    have h1 := hT.out a.key
    rw [told_none hH.out.keys ha hs] at h1
    intro b hb e
    have : lk (ps.map (·.1)) b.f0 = some b.f1 := by
     obtain ⟨i, hi⟩ := List.mem_iff_getElem?.1 hb
     exact lk_at hS.out hi
    rw [e, h1] at this
    cases this)
   have hT2 : Aside0 (∀ k, (if a.key = k then some a.xs else lk (ps.map (·.1)) k) = told rs (seen.push a.born) k) := .mk (fun k => by
    rw [told_step hH.out.keys hH.out.born ha k, hT.out k])
   have hlen := hx a ha
   have hval := Aside0.mk (hH.out.val ha)
   replace hlt := Aside0.mk hlt
   replace hI2 := Aside0.mk hI2
   replace hs := Aside0.mk hs
   have hpl : Aside0 (ps.length + 1 ≤ 1000000) := .mk (by have := hL.out; have := hlt.out; omega)
   clear hHw hH2 hF2 hr0 hne0
   obtain ⟨Av, cv, hav, hcv, hCv⟩ : ∃ A c, a.val = .slice A a.xs.length c ∧ a.xs.length ≤ c ∧ Kd.string.C w A a.xs.length a.xs := by
    rcases hval.out with ⟨h1, h2⟩ | ⟨g1, c1, h1, h2, h3⟩
    ·exact ⟨none, 0, by rw [h2]; exact h1, by simp [h2], by rw [h2]; exact ⟨rfl, by simp, fun h => absurd h (by simp)⟩⟩
    ·exact ⟨_, c1, h1, h2, h3⟩
   rw [hav] at hrun hent
   replace hCv := Aside0.mk hCv
   clear hval hav
   obtain ⟨A3, c3, e3⟩ := own_slice hO2.out.own
   subst e3
   have hc3 : Aside0 (ps.length ≤ c3) := .mk (by
    rcases hO2.out.own.2 with ⟨e, h0⟩ | ⟨g, cap, cur, e, _, _, h3, _⟩
    ·omega
    ·injection e with _ _ e3; omega)
   have hplI : (0 : Int) ≤ (ps.length : Int) := by omega
   go_wp2_with fail
   go_loopg [6] ps.length (fun g v6 w' => ∃ j : Nat, j ≤ ps.length ∧ v6 = .int .i64 j ∧ Aside0 (g = j) ∧ Aside0 (∀ (i : Nat) b, j ≤ i → (ps.map (·.1))[i]? = some b → kLt a.key b.f0 = true) ∧ Aside0 (w' = w2))
   case atStart => exact ⟨ps.length, Nat.le_refl _, rfl, ⟨rfl⟩, ⟨fun i b hi hb => by have := (List.getElem?_eq_some_iff.1 hb).1; rw [List.length_map] at this; omega⟩, ⟨rfl⟩⟩
   case round =>
    obtain ⟨j, hj, rfl, hg2, hgt, hw⟩ := hrel
    have hw := hw.out
    subst hw
    by_cases hcont : 0 < j ∧ ∃ p, ps[j - 1]? = some p ∧ kLt a.key p.1.f0 = true
    ·obtain ⟨hj0, p, hp, hk⟩ := hcont
     obtain ⟨g3, cap3, e3, hc3', _⟩ := hO2.out.form (by omega)
     injection e3 with e3 _ e3'
     subst e3 e3'
     obtain ⟨x0, _⟩ := hO2.out.cell (j - 1) p hp
     have hgt2 : Aside0 (∀ (i : Nat) b, j - 1 ≤ i → (ps.map (·.1))[i]? = some b → kLt a.key b.f0 = true) := .mk (fun i b hi hb => by
      rcases Nat.eq_or_lt_of_le hi with h1 | h1
      ·subst h1
       rw [List.getElem?_map, hp] at hb
       obtain rfl := Option.some.inj hb
       exact hk
      ·exact hgt.out i b (by omega) hb)
     have q1 : (0 : Int) < (j : Int) := by omega
     have q2 : IntKind.i64.wrap ((j : Int) - 1) = (j : Int) - 1 := by simp [IntKind.wrap, IntKind.bits, IntKind.signed]; omega
     have q3 : (0 : Int) ≤ (j : Int) - 1 := by omega
     have q4 : (j : Int) - 1 < (ps.length : Int) := by omega
     have q5 : ((j : Int) - 1).toNat = j - 1 := by omega
     have hgr := fun w => gtr_run 9 p.1.f0 a.key w
     rw [hk] at hgr
     go_wp2_with fail
     go_roundg (j - 1)
     case measure => have := hg2.out; omega
     case rel => exact ⟨j - 1, by omega, by go_num, ⟨rfl⟩, hgt2, ⟨rfl⟩⟩
    ·have hsz : Aside0 (w.heap.size ≤ wr.heap.size) := .mk hB2.out.size
     have hjI : (0 : Int) ≤ (j : Int) := by omega
     have hexit : j = 0 ∨ ∃ p, 0 < j ∧ ps[j - 1]? = some p ∧ kLt a.key p.1.f0 = false := by
      rcases Nat.eq_zero_or_pos j with h0 | h0
      ·exact .inl h0
      ·refine .inr ⟨ps[j - 1]'(by omega), h0, List.getElem?_eq_getElem (by omega), ?_⟩
       rw [Bool.eq_false_iff]
       intro h
       exact hcont ⟨h0, _, List.getElem?_eq_getElem (by omega), h⟩
     have hbl : Aside0 (below (ps.map (·.1)) a.key = j) := .mk (below_of hS.out (by rw [List.length_map]; exact hj) hgt.out (by
      rcases hexit with h | ⟨p, _, hp, hk⟩
      ·exact .inl h
      ·exact .inr ⟨p.1, by rw [List.getElem?_map, hp]; rfl, hk⟩) hne.out)
     clear hcont
     rcases hexit with h0 | ⟨p, hjp, hp, hk⟩
     ·have q1 : ¬ ((0 : Int) < (j : Int)) := by omega
      replace h0 := Aside0.mk h0
      go_wp2_with ((with_reducible refine gate_builtin (b := .append) (xs := #[.tmp 30, .tmp 32]) rfl ?_); at_builtin; refine print_append_cells (w0 := wr) w.heap.size rfl (.tmp 30) (.tmp 32) 31 73 (.agg #[.string ⟨#[]⟩, .slice none 0 0]) 2 40 rfl Tryz.underlying31 inf73 rfl (by decide) (by decide) (.slice A3 ps.length c3) ps.length (flat ps) [.string ⟨#[]⟩, .slice none 0 0] rfl rfl rfl (by intro u hu; simp at hu; rcases hu with rfl | rfl <;> rfl) hO2.out.own (Below.refl _ _) hsz.out (by have := hpl.out; omega) ?_; intro v1 w3 ho1 hb1 hg1 hat1; have hS1 := hO2.out.pushed hg1 ho1; obtain ⟨g3, cap3, e3, hc3', hcm'⟩ := hS1.form (by simp); rw [List.length_append] at e3 hc3'; subst e3; simp only [List.length_cons, List.length_nil, Nat.zero_add] at hc3'; have hB3 := Aside0.mk (hB2.out.trans hb1); have hge3 := Aside0.mk (own_base hS1.own g3 rfl); have hcut1 := fun W => cut31 g3 (ps.length + 1) cap3 (j + 1) (by omega) ((j : Int) + 1) (by omega) W; have hcut2 := fun W => cut31 g3 (ps.length + 1) cap3 j (by omega) (j : Int) rfl W; obtain ⟨dA, hdA⟩ : ∃ d : Option Addr, d = (if cap3 = j + 1 then some ⟨g3, 0, none⟩ else some ⟨g3, (j + 1) * 2, none⟩) := ⟨_, rfl⟩; obtain ⟨dB, hdB⟩ : ∃ d : Option Addr, d = (if cap3 = j then some ⟨g3, 0, none⟩ else some ⟨g3, j * 2, none⟩) := ⟨_, rfl⟩; rw [← hdA] at hcut1; rw [← hdB] at hcut2; replace hdA := Aside0.mk hdA; replace hdB := Aside0.mk hdB; have hwr : IntKind.i64.wrap ((j : Int) + 1) = (j : Int) + 1 := wr64 j (by have := hpl.out; omega); have hI3 := Aside0.mk (hI2.out.grow hg1 hO2.out); replace hS1 := Aside0.mk hS1; clear ho1 hb1 hg1 hat1)
      go_still_tail 7, (by kernel_rfl)
      change wpList _ _ _ _ _ w3.drew
      obtain ⟨cur, hcur, hcl, hct⟩ := hS1.out.cells (by simp)
      have hS1d : SO w.heap.size (.slice (some ⟨g3, 0, none⟩) (ps.length + 1) cap3) (ps ++ [pz]) w3.drew := ⟨hS1.out.own, hS1.out.inn⟩
      have hct' : cur.take ((ps.length + 1) * 2) = flat (ps ++ [pz]) := by simpa using hct
      have hfl := flat_len (ps.drop j)
      rw [List.length_drop] at hfl
      refine copyS rfl (.tmp 37) (.tmp 40) 31 31 rfl 73 2 (by omega) Tryz.underlying31 (by obtain ⟨k, hk, hz⟩ := Option.map_eq_some_iff.1 inf73; simp only [Prod.mk.injEq] at hz; simp [hk, hz]) dA dB (ps.length - j) (cap3 - (j + 1)) (ps.length + 1 - j) (cap3 - j) rfl rfl g3 ((j + 1) * 2) (ps.length - j) cur 73 hcur (flat (ps.drop j)) (by show _ = min _ _; omega) hfl (fun hp => ?_) (fun hp => by omega) (flat_one _ (fun q hq => hO2.out.one q (List.mem_of_mem_drop hq))) ?_
      ·refine ⟨hdA.out.trans (if_neg (by omega)), ⟨g3, j * 2, none⟩, hdB.out.trans (if_neg (by omega)), fun i v hi => ?_⟩
       rw [flat_drop ps j hj, List.getElem?_drop] at hi
       have h1 : (flat (ps ++ [pz]))[j * 2 + i]? = some v := by
        rw [flat_app, List.getElem?_append_left (List.getElem?_eq_some_iff.1 hi).1]; exact hi
       rw [← hct', List.getElem?_take] at h1
       split at h1
       ·rw [plain_add]
        show World.cell? w3 _ = _
        rw [cell_at hcur, List.getElem?_toArray]; exact h1
       ·cases h1
      intro w4 h4 hf4 hz4
      have hS2 := hS1d.moved hj hcur h4 hf4
      have hI4 := Aside0.mk (hI3.out.row (w1 := w4) (show Fr (· = g3) w3 w4 from ⟨hf4.os, hf4.tape, hf4.output, hf4.size, hf4.block⟩) hcur)
      have hB4 : Aside0 (Below w.heap.size w w4) := .mk (hB3.out.trans ((show Fr (· = g3) w3 w4 from ⟨hf4.os, hf4.tape, hf4.output, hf4.size, hf4.block⟩).below hB3.out.size (fun k _ e => by have := hge3.out; omega)))
      replace hS2 := Aside0.mk hS2
      clear hz4 hcut1 hcut2 hcur hcl hct hct' hfl h4 hf4 hS1d hS1 hI3 hB3
      go_wp2_with ((with_reducible refine gate_builtin (b := .append) (xs := #[.tmp 45, .tmp 46]) rfl ?_); at_builtin; refine append_copy rfl (.tmp 45) (.tmp 46) rfl a.xs Av cv rfl rfl (Kd.C_below hCv.out hB4.out) hlen ?_; intro v2 w5 hR2 hb5; obtain ⟨A2, k2, rfl⟩ := Kd.R_slice hR2; have hS5 := hS2.out.calm hb5; obtain ⟨x0, x1⟩ := hS5.cell_ex j (by simp; omega); obtain ⟨y0, y1⟩ := hS5.free j; have hI5 := Aside0.mk (hI4.out.calm hb5); have hB5 := Aside0.mk (below_then hB4.out hB4.out.size hb5); have hR5 := Aside0.mk (Kd.R_lower hR2 hB4.out.size); replace hS5 := Aside0.mk hS5; clear hR2 hb5)
      have hlj : j < ((ps ++ [pz]).take (j + 1) ++ ps.drop j).length := by simp; omega
      have hlen' : ((ps ++ [pz]).take (j + 1) ++ ps.drop j).length = ps.length + 1 := by simp; omega
      have hS6 := (show SO w.heap.size (.slice (some ⟨g3, 0, none⟩) ((ps ++ [pz]).take (j + 1) ++ ps.drop j).length cap3) ((ps ++ [pz]).take (j + 1) ++ ps.drop j) w5 by rw [hlen']; exact hS5.out).setH j hlj a.key (.slice A2 a.xs.length k2) a.xs hR5.out
      rw [hlen', insP_set ps j hj] at hS6
      clear hlen'
      have hI6 : Itr m w.heap.size clock (seen.push a.born) ((w5.setCell ⟨g3, j * 2, none⟩ (.string a.key)).setCell ⟨g3, j * 2 + 1, none⟩ (.slice A2 a.xs.length k2)) := by
       obtain ⟨cells, hc⟩ := own_typed hS5.out.own g3 rfl
       exact hI5.out.row (((Fr.refl (fun k => k = g3) w5).setCell (p := ⟨g3, j * 2, none⟩) (.inl rfl) _).setCell (p := ⟨g3, j * 2 + 1, none⟩) (.inl rfl) _) hc
      have hB6 := (hB5.out.setCell (p := ⟨g3, j * 2, none⟩) hge3.out (.string a.key)).setCell (p := ⟨g3, j * 2 + 1, none⟩) hge3.out (.slice A2 a.xs.length k2)
      have hfst : Aside0 ((insP ps j (⟨a.key, a.xs⟩, .slice A2 a.xs.length k2)).map (·.1) = insH (ps.map (·.1)) ⟨a.key, a.xs⟩) := .mk (by
       rw [insP_fst]
       unfold insH
       rw [hbl.out])
      have hS7 : Aside0 (srt ((insP ps j (⟨a.key, a.xs⟩, .slice A2 a.xs.length k2)).map (·.1))) := .mk (by rw [hfst.out]; exact insH_srt hS.out hne.out)
      have hT7 : Aside0 (∀ k, lk ((insP ps j (⟨a.key, a.xs⟩, .slice A2 a.xs.length k2)).map (·.1)) k = told rs (seen.push a.born) k) := .mk (fun k => by rw [hfst.out, insH_lk hne.out]; exact hT2.out k)
      have hl7 : Aside0 ((insP ps j (⟨a.key, a.xs⟩, .slice A2 a.xs.length k2)).length = ps.length + 1) := .mk (by simp [insP]; omega)
      have hS6' : Aside0 (SO w.heap.size (.slice (some ⟨g3, 0, none⟩) (ps.length + 1) cap3) (insP ps j (⟨a.key, a.xs⟩, .slice A2 a.xs.length k2)) ((w5.setCell ⟨g3, j * 2, none⟩ (.string a.key)).setCell ⟨g3, j * 2 + 1, none⟩ (.slice A2 a.xs.length k2))) := .mk (by simpa using hS6)
      replace hI6 := Aside0.mk hI6
      replace hB6 := Aside0.mk hB6
      clear hS6 x0 x1 y0 y1
      go_roundg ((leftOf (rs.map MR.ent).toArray (seen.push a.born)).size)
      case rel => exact ⟨seen.push a.born, _, ⟨Nat.le_refl _⟩, hI6, hS6', hS7, hT7, ⟨by have := hL.out; have := hlt.out; have := hl7.out; omega⟩, hB6⟩
      case measure => have := hg.out; have := hlt.out; omega
     ·obtain ⟨gO, capO, eO, hcO, _⟩ := hO2.out.form (by omega)
      injection eO with eO _ eO'
      subst eO eO'
      obtain ⟨z0, z1⟩ := hO2.out.cell (j - 1) p hp
      have q1 : (0 : Int) < (j : Int) := by omega
      have q2 : IntKind.i64.wrap ((j : Int) - 1) = (j : Int) - 1 := by simp [IntKind.wrap, IntKind.bits, IntKind.signed]; omega
      have q3 : (0 : Int) ≤ (j : Int) - 1 := by omega
      have q4 : (j : Int) - 1 < (ps.length : Int) := by omega
      have q5 : ((j : Int) - 1).toNat = j - 1 := by omega
      have hgr := fun w => gtr_run 9 p.1.f0 a.key w
      rw [hk] at hgr
      replace hjp := Aside0.mk hjp
      clear z1
      go_wp2_with ((with_reducible refine gate_builtin (b := .append) (xs := #[.tmp 30, .tmp 32]) rfl ?_); at_builtin; refine print_append_cells (w0 := wr) w.heap.size rfl (.tmp 30) (.tmp 32) 31 73 (.agg #[.string ⟨#[]⟩, .slice none 0 0]) 2 40 rfl Tryz.underlying31 inf73 rfl (by decide) (by decide) (.slice (some ⟨gO, 0, none⟩) ps.length c3) ps.length (flat ps) [.string ⟨#[]⟩, .slice none 0 0] rfl rfl rfl (by intro u hu; simp at hu; rcases hu with rfl | rfl <;> rfl) hO2.out.own (Below.refl _ _) hsz.out (by have := hpl.out; omega) ?_; intro v1 w3 ho1 hb1 hg1 hat1; have hS1 := hO2.out.pushed hg1 ho1; obtain ⟨g3, cap3, e3, hc3', hcm'⟩ := hS1.form (by simp); rw [List.length_append] at e3 hc3'; subst e3; simp only [List.length_cons, List.length_nil, Nat.zero_add] at hc3'; have hB3 := Aside0.mk (hB2.out.trans hb1); have hge3 := Aside0.mk (own_base hS1.own g3 rfl); have hcut1 := fun W => cut31 g3 (ps.length + 1) cap3 (j + 1) (by omega) ((j : Int) + 1) (by omega) W; have hcut2 := fun W => cut31 g3 (ps.length + 1) cap3 j (by omega) (j : Int) rfl W; obtain ⟨dA, hdA⟩ : ∃ d : Option Addr, d = (if cap3 = j + 1 then some ⟨g3, 0, none⟩ else some ⟨g3, (j + 1) * 2, none⟩) := ⟨_, rfl⟩; obtain ⟨dB, hdB⟩ : ∃ d : Option Addr, d = (if cap3 = j then some ⟨g3, 0, none⟩ else some ⟨g3, j * 2, none⟩) := ⟨_, rfl⟩; rw [← hdA] at hcut1; rw [← hdB] at hcut2; replace hdA := Aside0.mk hdA; replace hdB := Aside0.mk hdB; have hwr : IntKind.i64.wrap ((j : Int) + 1) = (j : Int) + 1 := wr64 j (by have := hpl.out; omega); have hI3 := Aside0.mk (hI2.out.grow hg1 hO2.out); replace hS1 := Aside0.mk hS1; clear ho1 hb1 hg1 hat1)
      go_still_tail 7, (by kernel_rfl)
      change wpList _ _ _ _ _ w3.drew
      obtain ⟨cur, hcur, hcl, hct⟩ := hS1.out.cells (by simp)
      have hS1d : SO w.heap.size (.slice (some ⟨g3, 0, none⟩) (ps.length + 1) cap3) (ps ++ [pz]) w3.drew := ⟨hS1.out.own, hS1.out.inn⟩
      have hct' : cur.take ((ps.length + 1) * 2) = flat (ps ++ [pz]) := by simpa using hct
      have hfl := flat_len (ps.drop j)
      rw [List.length_drop] at hfl
      refine copyS rfl (.tmp 37) (.tmp 40) 31 31 rfl 73 2 (by omega) Tryz.underlying31 (by obtain ⟨k, hk, hz⟩ := Option.map_eq_some_iff.1 inf73; simp only [Prod.mk.injEq] at hz; simp [hk, hz]) dA dB (ps.length - j) (cap3 - (j + 1)) (ps.length + 1 - j) (cap3 - j) rfl rfl g3 ((j + 1) * 2) (ps.length - j) cur 73 hcur (flat (ps.drop j)) (by show _ = min _ _; omega) hfl (fun hp => ?_) (fun hp => by omega) (flat_one _ (fun q hq => hO2.out.one q (List.mem_of_mem_drop hq))) ?_
      ·refine ⟨hdA.out.trans (if_neg (by omega)), ⟨g3, j * 2, none⟩, hdB.out.trans (if_neg (by omega)), fun i v hi => ?_⟩
       rw [flat_drop ps j hj, List.getElem?_drop] at hi
       have h1 : (flat (ps ++ [pz]))[j * 2 + i]? = some v := by
        rw [flat_app, List.getElem?_append_left (List.getElem?_eq_some_iff.1 hi).1]; exact hi
       rw [← hct', List.getElem?_take] at h1
       split at h1
       ·rw [plain_add]
        show World.cell? w3 _ = _
        rw [cell_at hcur, List.getElem?_toArray]; exact h1
       ·cases h1
      intro w4 h4 hf4 hz4
      have hS2 := hS1d.moved hj hcur h4 hf4
      have hI4 := Aside0.mk (hI3.out.row (w1 := w4) (show Fr (· = g3) w3 w4 from ⟨hf4.os, hf4.tape, hf4.output, hf4.size, hf4.block⟩) hcur)
      have hB4 : Aside0 (Below w.heap.size w w4) := .mk (hB3.out.trans ((show Fr (· = g3) w3 w4 from ⟨hf4.os, hf4.tape, hf4.output, hf4.size, hf4.block⟩).below hB3.out.size (fun k _ e => by have := hge3.out; omega)))
      replace hS2 := Aside0.mk hS2
      clear hz4 hcut1 hcut2 hcur hcl hct hct' hfl h4 hf4 hS1d hS1 hI3 hB3
      go_wp2_with ((with_reducible refine gate_builtin (b := .append) (xs := #[.tmp 45, .tmp 46]) rfl ?_); at_builtin; refine append_copy rfl (.tmp 45) (.tmp 46) rfl a.xs Av cv rfl rfl (Kd.C_below hCv.out hB4.out) hlen ?_; intro v2 w5 hR2 hb5; obtain ⟨A2, k2, rfl⟩ := Kd.R_slice hR2; have hS5 := hS2.out.calm hb5; obtain ⟨x0, x1⟩ := hS5.cell_ex j (by simp; omega); obtain ⟨y0, y1⟩ := hS5.free j; have hI5 := Aside0.mk (hI4.out.calm hb5); have hB5 := Aside0.mk (below_then hB4.out hB4.out.size hb5); have hR5 := Aside0.mk (Kd.R_lower hR2 hB4.out.size); replace hS5 := Aside0.mk hS5; clear hR2 hb5)
      have hlj : j < ((ps ++ [pz]).take (j + 1) ++ ps.drop j).length := by simp; omega
      have hlen' : ((ps ++ [pz]).take (j + 1) ++ ps.drop j).length = ps.length + 1 := by simp; omega
      have hS6 := (show SO w.heap.size (.slice (some ⟨g3, 0, none⟩) ((ps ++ [pz]).take (j + 1) ++ ps.drop j).length cap3) ((ps ++ [pz]).take (j + 1) ++ ps.drop j) w5 by rw [hlen']; exact hS5.out).setH j hlj a.key (.slice A2 a.xs.length k2) a.xs hR5.out
      rw [hlen', insP_set ps j hj] at hS6
      clear hlen'
      have hI6 : Itr m w.heap.size clock (seen.push a.born) ((w5.setCell ⟨g3, j * 2, none⟩ (.string a.key)).setCell ⟨g3, j * 2 + 1, none⟩ (.slice A2 a.xs.length k2)) := by
       obtain ⟨cells, hc⟩ := own_typed hS5.out.own g3 rfl
       exact hI5.out.row (((Fr.refl (fun k => k = g3) w5).setCell (p := ⟨g3, j * 2, none⟩) (.inl rfl) _).setCell (p := ⟨g3, j * 2 + 1, none⟩) (.inl rfl) _) hc
      have hB6 := (hB5.out.setCell (p := ⟨g3, j * 2, none⟩) hge3.out (.string a.key)).setCell (p := ⟨g3, j * 2 + 1, none⟩) hge3.out (.slice A2 a.xs.length k2)
      have hfst : Aside0 ((insP ps j (⟨a.key, a.xs⟩, .slice A2 a.xs.length k2)).map (·.1) = insH (ps.map (·.1)) ⟨a.key, a.xs⟩) := .mk (by
       rw [insP_fst]
       unfold insH
       rw [hbl.out])
      have hS7 : Aside0 (srt ((insP ps j (⟨a.key, a.xs⟩, .slice A2 a.xs.length k2)).map (·.1))) := .mk (by rw [hfst.out]; exact insH_srt hS.out hne.out)
      have hT7 : Aside0 (∀ k, lk ((insP ps j (⟨a.key, a.xs⟩, .slice A2 a.xs.length k2)).map (·.1)) k = told rs (seen.push a.born) k) := .mk (fun k => by rw [hfst.out, insH_lk hne.out]; exact hT2.out k)
      have hl7 : Aside0 ((insP ps j (⟨a.key, a.xs⟩, .slice A2 a.xs.length k2)).length = ps.length + 1) := .mk (by simp [insP]; omega)
      have hS6' : Aside0 (SO w.heap.size (.slice (some ⟨g3, 0, none⟩) (ps.length + 1) cap3) (insP ps j (⟨a.key, a.xs⟩, .slice A2 a.xs.length k2)) ((w5.setCell ⟨g3, j * 2, none⟩ (.string a.key)).setCell ⟨g3, j * 2 + 1, none⟩ (.slice A2 a.xs.length k2))) := .mk (by simpa using hS6)
      replace hI6 := Aside0.mk hI6
      replace hB6 := Aside0.mk hB6
      clear hS6 x0 x1 y0 y1
      go_roundg ((leftOf (rs.map MR.ent).toArray (seen.push a.born)).size)
      case rel => exact ⟨seen.push a.born, _, ⟨Nat.le_refl _⟩, hI6, hS6', hS7, hT7, ⟨by have := hL.out; have := hlt.out; have := hl7.out; omega⟩, hB6⟩
      case measure => have := hg.out; have := hlt.out; omega
end HH
end Go.Proofs.YtclmjmfcggkpaaaGreatDoor
