import Derived.Test.YtclmjmfcggkpaaaGreatDoorU29
import Derived.StillTailTactics
set_option linter.unusedVariables false
set_option linter.unusedSimpArgs false
namespace Go.Proofs.YtclmjmfcggkpaaaGreatDoor
open Go.RowKit Go.Proofs.YtclmjmfcggkpaaaGreatDoorW.PrintWords Go.Proofs.YtclmjmfcggkpaaaGreatDoorW.PrintLast Go.Proofs.YtclmjmfcggkpaaaGreatDoorW.PrintMore
open PX
open Go.ChangeMaps (setBlock)
namespace HH
open H
/-! ### A row of headers: a new one goes in at its place -/
/-- copy of elements of any size, in a row that is known whole. -/
theorem run_copyS {P : Program} {w : World} (dT sT ty elem : TypeId) (sz : Nat) (hs0 : 0 < sz) (hu : P.underlying dT = some (.slice elem)) (hsz : (P.info? elem).map (·.size) = some sz)
 (dp sp : Option Addr) (dLen dCap sLen sCap g off n : Nat) (cur : List Value) (T : TypeId) (hg : w.heap[g]? = some (.cells cur.toArray T (0, 0))) (cs : List Value) (hn : n = Nat.min sLen dLen) (hcl : cs.length = n * sz)
 (hpos : 0 < cs.length → dp = some ⟨g, off, none⟩ ∧ ∃ ad, sp = some ad ∧ ∀ j v, cs[j]? = some v → w.cell? (ad.add j) = some v)
 (hfit : 0 < cs.length → off + cs.length ≤ cur.length) (h1 : ∀ v ∈ cs, v.oneCell' = true) :
 ∃ w', (Builtin.copy_ #[dT, sT] ty #[.slice dp dLen dCap, .slice sp sLen sCap]).run P w = .ok (goInt n) w' ∧ w'.heap[g]? = some (.cells (if cs = [] then cur else spl cur off cs).toArray T (0, 0)) ∧ Fr (· = g) w w' ∧ w'.heap.size = w.heap.size := by
 cases hq : P.info? elem with
 | none => simp [hq] at hsz
 | some i =>
   have hi : i.size = sz := by simpa [hq] using hsz
   by_cases h0 : cs = []
   ·subst h0
    have hn0 : n = 0 := by
     rcases Nat.eq_zero_or_pos n with h | h
     ·exact h
     ·have : 0 < n * sz := Nat.mul_pos h hs0
      simp at hcl; omega
    subst hn0
    refine ⟨w, ?_, by simpa using hg, Fr.refl _ _, rfl⟩
    cases sp with
    | none => cases dp <;> simp [Builtin.copy_, run_underlying hu, Builtin.lenOf, Builtin.firstCells, sizeOf, typeInfo, hq, ← hn, storeCells]
    | some ad =>
      have hl := run_loadCells_list (P := P) w ad [] (by simp)
      simp only [List.length_nil] at hl
      cases dp <;> simp [Builtin.copy_, run_underlying hu, Builtin.lenOf, Builtin.firstCells, sizeOf, typeInfo, hq, ← hn, storeCells, hl]
   ·have hp : 0 < cs.length := List.length_pos_iff.2 h0
    obtain ⟨rfl, ad, rfl, hsrc⟩ := hpos hp
    have hl := run_loadCells_list (P := P) w ad cs hsrc
    obtain ⟨w', hst, hg', hf, hz⟩ := storeC (P := P) g off T (0, 0) cs 0 w cur hg (by simpa using hfit hp) (by simp) h1
    refine ⟨w', ?_, by rw [if_neg h0]; simpa using hg', hf, hz⟩
    rw [hcl] at hl
    simp [Builtin.copy_, run_underlying hu, Builtin.lenOf, Builtin.firstCells, sizeOf, typeInfo, hq, hi, ← hn, hl, hst]
theorem copyS {P : Program} {w : World} {ops : Array Oper} {rest : List Oper} {o : Oper} {a : Act} {Q : Exit → Act → World → Prop} (hgd : o.guard = none) (d s : Operand) (dT sT : TypeId)
 (ho : o.op = .call { callee := .builtin .copy, args := #[d, s], argTypes := #[dT, sT] }) (elem : TypeId) (sz : Nat) (hs0 : 0 < sz) (hu : P.underlying dT = some (.slice elem)) (hsz : (P.info? elem).map (·.size) = some sz)
 (dp sp : Option Addr) (dLen dCap sLen sCap : Nat) (hd : a.eval d = .slice dp dLen dCap) (hs : a.eval s = .slice sp sLen sCap)
 (g off n : Nat) (cur : List Value) (T : TypeId) (hg : w.heap[g]? = some (.cells cur.toArray T (0, 0))) (cs : List Value) (hn : n = Nat.min sLen dLen) (hcl : cs.length = n * sz)
 (hpos : 0 < cs.length → dp = some ⟨g, off, none⟩ ∧ ∃ ad, sp = some ad ∧ ∀ j v, cs[j]? = some v → w.cell? (ad.add j) = some v)
 (hfit : 0 < cs.length → off + cs.length ≤ cur.length) (h1 : ∀ v ∈ cs, v.oneCell' = true)
 (h : ∀ w', w'.heap[g]? = some (.cells (if cs = [] then cur else spl cur off cs).toArray T (0, 0)) → Fr (· = g) w w' → w'.heap.size = w.heap.size → wpList P ops Q rest (a.put o.dst (goInt n)) w') :
 wpList P ops Q (o :: rest) a w := by
 obtain ⟨w', hrun, h2, h3, h4⟩ := run_copyS (P := P) (w := w) dT sT o.type elem sz hs0 hu hsz dp sp dLen dCap sLen sCap g off n cur T hg cs hn hcl hpos hfit h1
 refine wpList_plain hgd fun K hK => ?_
 unfold Oper.wp
 simp [execOp, ho, resolve, invoke, builtin, hd, hs, hrun, Result.andThen]
 exact hK _ _ (h w' h2 h3 h4)
def flat (ps : List (S73 × Value)) : List Value := ps.flatMap fun p => [.string p.1.f0, p.2]
theorem flat_app (a b : List (S73 × Value)) : flat (a ++ b) = flat a ++ flat b := by simp [flat]
theorem flat_len : ∀ ps : List (S73 × Value), (flat ps).length = ps.length * 2
 | [] => rfl
 | p :: ps => by
   have := flat_len ps
   unfold flat at this ⊢
   rw [List.flatMap_cons, List.length_append, this]
   simp
   omega
theorem flat_cut (ps : List (S73 × Value)) (k : Nat) : flat ps = flat (ps.take k) ++ flat (ps.drop k) := by rw [← flat_app, List.take_append_drop]
theorem flat_take (ps : List (S73 × Value)) (k : Nat) : flat (ps.take k) = (flat ps).take (k * 2) := by
 by_cases h : k ≤ ps.length
 ·have hl : (flat (ps.take k)).length = k * 2 := by rw [flat_len, List.length_take, Nat.min_eq_left h]
  rw [flat_cut ps k, List.take_left' hl]
 ·rw [List.take_of_length_le (by omega : ps.length ≤ k), List.take_of_length_le (by rw [flat_len]; omega)]
theorem flat_drop (ps : List (S73 × Value)) (k : Nat) (h : k ≤ ps.length) : flat (ps.drop k) = (flat ps).drop (k * 2) := by
 have hl : (flat (ps.take k)).length = k * 2 := by rw [flat_len, List.length_take, Nat.min_eq_left h]
 rw [flat_cut ps k, List.drop_left' hl]
theorem flat_get (ps : List (S73 × Value)) (i : Nat) (p : S73 × Value) (h : ps[i]? = some p) : (flat ps)[i * 2]? = some (.string p.1.f0) ∧ (flat ps)[i * 2 + 1]? = some p.2 := by
 have hl := (List.getElem?_eq_some_iff.1 h).1
 have e : ps.drop i = p :: ps.drop (i + 1) := by
  rw [List.drop_eq_getElem_cons hl, (List.getElem?_eq_some_iff.1 h).2]
 have h2 := flat_drop ps i (by omega)
 rw [e] at h2
 have h3 : ∀ j, (flat ps)[i * 2 + j]? = (flat (p :: ps.drop (i + 1)))[j]? := by
  intro j
  rw [h2, List.getElem?_drop]
 exact ⟨by rw [← Nat.add_zero (i * 2), h3]; rfl, by rw [h3]; rfl⟩
theorem flat_one (ps : List (S73 × Value)) (hv : ∀ p ∈ ps, p.2.oneCell' = true) : ∀ v ∈ flat ps, v.oneCell' = true := by
 intro v hm
 unfold flat at hm
 obtain ⟨p, hp, h⟩ := List.mem_flatMap.1 hm
 simp at h
 rcases h with rfl | rfl
 ·rfl
 ·exact hv p hp
/-- The row v of headers ps, each with a row of texts. -/
structure SO (B : Nat) (v : Value) (ps : List (S73 × Value)) (w : World) : Prop where
 own : w.ownsRow B 73 2 v ps.length (flat ps)
 inn : ∀ p ∈ ps, Kd.string.R 9 w B (fun _ => True) p.2 p.1.f1
theorem SO.one {B : Nat} {v : Value} {ps : List (S73 × Value)} {w : World} (h : SO B v ps w) : ∀ p ∈ ps, p.2.oneCell' = true := by
 intro p hp
 obtain ⟨A, c, e⟩ := Kd.R_slice (h.inn p hp)
 rw [e]; rfl
theorem SO.fr {B : Nat} {v : Value} {ps : List (S73 × Value)} {w w' : World} {S : Nat → Prop} (h : SO B v ps w) (hf : Fr S w w') (hS : ∀ k, B ≤ k → k < w.heap.size → ¬ S k) : SO B v ps w' :=
 ⟨hf.own h.own (fun k hk => hS k (own_base h.own k hk) (own_lt h.own k hk)), fun p hp => by
  have hR := h.inn p hp
  obtain ⟨inner, ho⟩ := Kd.R_own hR
  exact Kd.R_mono (Kd.R_step (Kd.R_tight (by rfl) hR) (fun k hk hlt => hf.block k hlt (hS k (own_base ho k hk.symm) hlt))) (fun _ _ => trivial)⟩
theorem SO.calm {B : Nat} {v : Value} {ps : List (S73 × Value)} {w w' : World} (h : SO B v ps w) (hb : Below w.heap.size w w') : SO B v ps w' :=
 h.fr (Fr.of_below (S := fun _ => False) hb) (fun _ _ _ h => h)
/-- A write into the row's own block alone leaves the rows inside. -/
theorem SO.inner {B g : Nat} {cs : Array Value} {ps : List (S73 × Value)} {w w' : World} (h : ∀ p ∈ ps, Kd.string.R 9 w B (fun _ => True) p.2 p.1.f1) (hg : w.heap[g]? = some (.cells cs 73 (0, 0))) (hf : Fr (· = g) w w') :
 ∀ p ∈ ps, Kd.string.R 9 w' B (fun _ => True) p.2 p.1.f1 := by
 intro p hp
 have hR := Kd.R_types (h p hp) hg (fun q hq => by
  have : q = 9 := by simpa [Kd.string, Kd.scalar] using hq
  omega)
 exact Kd.R_mono (Kd.R_step hR (fun k hk hlt => hf.block k hlt hk.2)) (fun _ _ => trivial)
theorem SO.cell {B g cap : Nat} {ps : List (S73 × Value)} {w : World} (h : SO B (.slice (some ⟨g, 0, none⟩) ps.length cap) ps w) (i : Nat) (p : S73 × Value) (hi : ps[i]? = some p) :
 w.cell? ⟨g, i * 2, none⟩ = some (.string p.1.f0) ∧ w.cell? ⟨g, i * 2 + 1, none⟩ = some p.2 := by
 have h1 := h.own.cells (g := g) rfl
 obtain ⟨e1, e2⟩ := flat_get ps i p hi
 have := h1 _ _ e1
 have h3 := h1 _ _ e2
 rw [plain_add, Nat.zero_add] at this h3
 exact ⟨this, h3⟩
theorem SO.form {B : Nat} {v : Value} {ps : List (S73 × Value)} {w : World} (h : SO B v ps w) (hp : 0 < ps.length) : ∃ g cap, v = .slice (some ⟨g, 0, none⟩) ps.length cap ∧ ps.length ≤ cap ∧ cap ≤ 9223372036854775807 := by
 rcases h.own.2 with ⟨_, h0⟩ | ⟨g, cap, cur, e, _, _, h3, h4, _⟩
 ·omega
 ·exact ⟨g, cap, e, h3, by simpa [maxLen] using h4⟩
/-- Read as headers, from blocks at or above B alone. -/
theorem SO.read {B : Nat} {v : Value} {ps : List (S73 × Value)} {w : World} (h : SO B v ps w) (hn : ps.length ≤ 9223372036854775807) :
 ∃ A c, v = .slice A (ps.map (·.1)).length c ∧ (ps.map (·.1)).length ≤ c ∧ Kd.F k73 w (fun k => B ≤ k) A (ps.map (·.1)).length (ps.map (·.1)) := by
 obtain ⟨A, c, hv⟩ := own_slice h.own
 have hc : ps.length ≤ c := by
  rcases h.own.2 with ⟨e, h0⟩ | ⟨g, cap, cur, e, _, _, h3, _⟩
  ·omega
  ·rw [hv] at e; injection e with _ _ e3; omega
 refine ⟨A, c, by rw [List.length_map]; exact hv, by rw [List.length_map]; exact hc, fun W' hW => ?_⟩
 have hF : Fr (fun k => ¬ (B ≤ k ∧ k < w.heap.size)) w W' → SO B v ps W' := fun hf => h.fr hf (fun k h1 h2 h3 => h3 ⟨h1, h2⟩)
 have hown : W'.ownsRow B 73 2 v ps.length (flat ps) := own_move h.own (fun k hk => hW k (own_base h.own k hk) (own_lt h.own k hk))
 have hinn : ∀ p ∈ ps, Kd.string.R 9 W' B (fun _ => True) p.2 p.1.f1 := fun p hp => by
  have hR := h.inn p hp
  obtain ⟨inner, ho⟩ := Kd.R_own hR
  exact Kd.R_mono (Kd.R_step (Kd.R_tight (by rfl) hR) (fun k hk hlt => hW k (own_base ho k hk.symm) hlt)) (fun _ _ => trivial)
 have h' : SO B v ps W' := ⟨hown, hinn⟩
 refine ⟨rfl, by rw [List.length_map]; exact hn, fun hp => ?_⟩
 rw [List.length_map] at hp
 obtain ⟨g, cap, e, _, _⟩ := h'.form hp
 rw [hv] at e
 injection e with e1 e2 e3
 subst e1 e3
 refine ⟨⟨g, 0, none⟩, rfl, fun j x hj => ?_⟩
 rw [List.getElem?_map] at hj
 obtain ⟨p, hpj, rfl⟩ := Option.map_eq_some_iff.1 hj
 subst hv
 obtain ⟨c1, c2⟩ := h'.cell j p hpj
 obtain ⟨A1, k1, e1, l1, g1⟩ := Kd.R_reads (h'.inn p (List.mem_of_getElem? hpj))
 refine ⟨[.string p.1.f0, .slice A1 p.1.f1.length k1], rfl, k73_mk W' p.1 l1 g1, fun i u hi => ?_⟩
 rw [plain_add, Nat.zero_add]
 match i, hi with
 | 0, hi => obtain rfl := Option.some.inj hi; exact c1
 | 1, hi => obtain rfl := Option.some.inj hi; rw [e1] at c2; exact c2
theorem own_setC {w : World} {base g n cap sz : Nat} {e : TypeId} {xs : List Value} (h : w.ownsRow base e sz (.slice (some ⟨g, 0, none⟩) n cap) n xs) (j : Nat) (u : Value) (hj : j < n * sz) :
 (w.setCell ⟨g, j, none⟩ u).ownsRow base e sz (.slice (some ⟨g, 0, none⟩) n cap) n (xs.set j u) := by
 obtain ⟨h1, h2 | ⟨g', cap', cur, hv, a1, a2, a3, a4, a5, a6⟩⟩ := h
 ·exact absurd h2.1 (by simp)
 ·injection hv with e1 e2 e3
  injection e1 with e1
  injection e1 with e1
  subst e1 e3
  refine ⟨by simpa using h1, .inr ⟨g, cap, _, rfl, a1, heap_set a2 j u, a3, a4, by simpa using a5, ?_⟩⟩
  rw [← a6]
  simp [List.take_set]
theorem flat_set (ps : List (S73 × Value)) (i : Nat) (p q : S73 × Value) (h : ps[i]? = some p) : flat (ps.set i q) = ((flat ps).set (i * 2) (.string q.1.f0)).set (i * 2 + 1) q.2 := by
 have hl := (List.getElem?_eq_some_iff.1 h).1
 have e : ps = ps.take i ++ p :: ps.drop (i + 1) := by
  have := List.drop_eq_getElem_cons hl
  rw [(List.getElem?_eq_some_iff.1 h).2] at this
  rw [← this, List.take_append_drop]
 have hlt : (flat (ps.take i)).length = i * 2 := by rw [flat_len, List.length_take, Nat.min_eq_left (by omega)]
 have e1 : flat ps = flat (ps.take i) ++ (.string p.1.f0 :: p.2 :: flat (ps.drop (i + 1))) := by
  conv => lhs; rw [e]
  rw [flat_app]; rfl
 have e2 : flat (ps.set i q) = flat (ps.take i) ++ (.string q.1.f0 :: q.2 :: flat (ps.drop (i + 1))) := by
  rw [List.set_eq_take_append_cons_drop, if_pos hl, flat_app]; rfl
 rw [e1, e2, List.set_append_right _ _ (by omega), hlt, Nat.sub_self, List.set_append_right _ _ (by omega), hlt]
 rw [show i * 2 + 1 - i * 2 = 1 from by omega]
 rfl
/-- A header's texts are set. -/
theorem SO.setV {B g cap : Nat} {ps : List (S73 × Value)} {w : World} (h : SO B (.slice (some ⟨g, 0, none⟩) ps.length cap) ps w) (i : Nat) (p : S73 × Value) (hi : ps[i]? = some p) (v : Value) (xs : List ByteArray) (hv : Kd.string.R 9 w B (fun _ => True) v xs) :
 SO B (.slice (some ⟨g, 0, none⟩) ps.length cap) (ps.set i (⟨p.1.f0, xs⟩, v)) (w.setCell ⟨g, i * 2 + 1, none⟩ v) := by
 have hl := (List.getElem?_eq_some_iff.1 hi).1
 obtain ⟨cells, hc⟩ := own_typed h.own g rfl
 have hf : Fr (· = g) w (w.setCell ⟨g, i * 2 + 1, none⟩ v) := (Fr.refl (fun k => k = g) w).setCell (p := ⟨g, i * 2 + 1, none⟩) (.inl rfl) v
 obtain ⟨e1, e2⟩ := flat_get ps i p hi
 refine ⟨?_, ?_⟩
 ·rw [List.length_set]
  have h1 := own_setC h.own (i * 2 + 1) v (by omega)
  rw [flat_set ps i p _ hi]
  have : (flat ps).set (i * 2) (.string p.1.f0) = flat ps := by
   apply List.ext_getElem?
   intro k
   rw [List.getElem?_set]
   by_cases hk : i * 2 = k
   ·subst hk
    rw [if_pos rfl, if_pos (by rw [flat_len]; omega), e1]
   ·rw [if_neg hk]
  rw [this]
  exact h1
 ·intro q hq
  rcases List.mem_or_eq_of_mem_set hq with hq | rfl
  ·exact SO.inner h.inn hc hf q hq
  ·exact SO.inner (ps := [(⟨p.1.f0, xs⟩, v)]) (fun q hq => by obtain rfl := List.mem_singleton.1 hq; exact hv) hc hf _ (by simp)
/-- A whole header is set. -/
theorem SO.setH {B g cap : Nat} {ps : List (S73 × Value)} {w : World} (h : SO B (.slice (some ⟨g, 0, none⟩) ps.length cap) ps w) (i : Nat) (hi : i < ps.length) (key : ByteArray) (v : Value) (xs : List ByteArray) (hv : Kd.string.R 9 w B (fun _ => True) v xs) :
 SO B (.slice (some ⟨g, 0, none⟩) ps.length cap) (ps.set i (⟨key, xs⟩, v)) ((w.setCell ⟨g, i * 2, none⟩ (.string key)).setCell ⟨g, i * 2 + 1, none⟩ v) := by
 obtain ⟨cells, hc⟩ := own_typed h.own g rfl
 have hf : Fr (· = g) w ((w.setCell ⟨g, i * 2, none⟩ (.string key)).setCell ⟨g, i * 2 + 1, none⟩ v) := ((Fr.refl (fun k => k = g) w).setCell (p := ⟨g, i * 2, none⟩) (.inl rfl) _).setCell (p := ⟨g, i * 2 + 1, none⟩) (.inl rfl) v
 refine ⟨?_, ?_⟩
 ·rw [List.length_set]
  have h1 := own_setC (own_setC h.own (i * 2) (.string key) (by omega)) (i * 2 + 1) v (by omega)
  rw [flat_set ps i _ _ (List.getElem?_eq_getElem hi)]
  exact h1
 ·intro q hq
  rcases List.mem_or_eq_of_mem_set hq with hq | rfl
  ·exact SO.inner h.inn hc hf q hq
  ·exact SO.inner (ps := [(⟨key, xs⟩, v)]) (fun q hq => by obtain rfl := List.mem_singleton.1 hq; exact hv) hc hf _ (by simp)
def pz : S73 × Value := (⟨⟨#[]⟩, []⟩, .slice none 0 0)
theorem inf73 : (Tryz.prog.info? 73).map (fun i => (i.zero, i.size, i.bytes)) = some (some (.agg #[.string ⟨#[]⟩, .slice none 0 0]), 2, 40) := by kernel_rfl
/-- append(out, Header{}). -/
theorem SO.pushed {B : Nat} {v v1 : Value} {ps : List (S73 × Value)} {w w1 : World} (h : SO B v ps w) (hg : w.grownBy w1 v.ownBlock) (ho : w1.ownsRow B 73 2 v1 (ps.length + 1) (flat ps ++ [.string ⟨#[]⟩, .slice none 0 0])) : SO B v1 (ps ++ [pz]) w1 := by
 refine ⟨?_, ?_⟩
 ·rw [flat_app, List.length_append]; exact ho
 ·intro p hp
  rcases List.mem_append.1 hp with hp | hp
  ·have hR := h.inn p hp
   refine Kd.R_mono (Kd.R_step (Kd.R_tight (by rfl) hR) (fun k hk hlt => hg.block k hlt (fun e => ?_))) (fun _ _ => trivial)
   obtain ⟨inner, ho'⟩ := Kd.R_own hR
   rcases own_type_ne ho' h.own (by decide : (9 : TypeId) ≠ 73) with h1 | h1
   ·rw [h1] at hk; cases hk
   ·exact h1 (hk.symm.trans e)
  ·obtain rfl := List.mem_singleton.1 hp
   exact Kd.R_nil _ _ _ _ _
/-- copy(out[at+1:], out[at:]). -/
theorem SO.moved {B g cap at_ : Nat} {ps : List (S73 × Value)} {w w2 : World} {cur : List Value} (h : SO B (.slice (some ⟨g, 0, none⟩) (ps.length + 1) cap) (ps ++ [pz]) w) (hat : at_ ≤ ps.length) (hc : w.heap[g]? = some (.cells cur.toArray 73 (0, 0)))
 (h2 : w2.heap[g]? = some (.cells (if flat (ps.drop at_) = [] then cur else spl cur ((at_ + 1) * 2) (flat (ps.drop at_))).toArray 73 (0, 0))) (hf : Fr (· = g) w w2) :
 SO B (.slice (some ⟨g, 0, none⟩) (ps.length + 1) cap) ((ps ++ [pz]).take (at_ + 1) ++ ps.drop at_) w2 := by
 obtain ⟨h1, h3 | ⟨g', cap', cur', hv, a1, a2, a3, a4, a5, a6⟩⟩ := h.own
 ·exact absurd h3.1 (by simp)
 injection hv with e1 e2 e3
 injection e1 with e1
 injection e1 with e1
 subst e1 e3
 rw [hc] at a2
 injection a2 with a2
 injection a2 with a2
 subst a2
 have hlen : ((ps ++ [pz]).take (at_ + 1) ++ ps.drop at_).length = ps.length + 1 := by simp; omega
 have hcl : cur.length = cap * 2 := by simpa using a5
 have htk : cur.take ((ps.length + 1) * 2) = flat (ps ++ [pz]) := by simpa using a6
 have hfl := flat_len (ps.drop at_)
 rw [List.length_drop] at hfl
 refine ⟨?_, ?_⟩
 ·rw [hlen]
  refine ⟨by rw [flat_len, hlen], .inr ⟨g, cap, _, rfl, a1, h2, by simpa using a3, a4, ?_, ?_⟩⟩
  ·split
   ·simpa using hcl
   ·rename_i hne
    rw [List.size_toArray, spl_length _ _ _ (by omega), hcl]
  ·simp only [List.toList_toArray]
   split
   ·rename_i he
    have : at_ = ps.length := by
     have := congrArg List.length he
     rw [flat_len, List.length_drop] at this
     simp at this; omega
    subst this
    rw [htk, List.drop_length, List.append_nil, List.take_of_length_le (by simp)]
   ·unfold spl
    rw [flat_app, flat_take, ← htk, List.take_take, Nat.min_eq_left (by omega)]
    rw [List.take_left']
    rw [List.length_append, List.length_take, hfl, Nat.min_eq_left (by omega)]
    omega
 ·intro p hp
  refine SO.inner h.inn hc hf p ?_
  rcases List.mem_append.1 hp with hp | hp
  ·exact List.mem_of_mem_take hp
  ·exact List.mem_append_left _ (List.mem_of_mem_drop hp)
end HH
end Go.Proofs.YtclmjmfcggkpaaaGreatDoor
set_option linter.unusedVariables false
set_option linter.unusedSimpArgs false
namespace Go.Proofs.YtclmjmfcggkpaaaGreatDoor
open Go.RowKit Go.Proofs.YtclmjmfcggkpaaaGreatDoorW.PrintWords Go.Proofs.YtclmjmfcggkpaaaGreatDoorW.PrintLast Go.Proofs.YtclmjmfcggkpaaaGreatDoorW.PrintMore
open PX
open Go.ChangeMaps (setBlock)
namespace HH
open H
/-! ### impl.sorted -/
theorem wr64 (j : Nat) (h : j ≤ 1000000000) : IntKind.i64.wrap ((j : Int) + 1) = (j : Int) + 1 := by
 simp [IntKind.wrap, IntKind.bits, IntKind.signed]; omega
theorem SO.cell_ex {B g cap n : Nat} {ps : List (S73 × Value)} {w : World} (h : SO B (.slice (some ⟨g, 0, none⟩) n cap) ps w) (i : Nat) (hi : i < ps.length) :
 w.cell? ⟨g, i * 2, none⟩ = some (.string (ps[i]'hi).1.f0) ∧ w.cell? ⟨g, i * 2 + 1, none⟩ = some (ps[i]'hi).2 := by
 have h1 := h.own.cells (g := g) rfl
 obtain ⟨e1, e2⟩ := flat_get ps i _ (List.getElem?_eq_getElem hi)
 have := h1 _ _ e1
 have h3 := h1 _ _ e2
 rw [plain_add, Nat.zero_add] at this h3
 exact ⟨this, h3⟩
theorem SO.free {B g cap n : Nat} {ps : List (S73 × Value)} {w : World} (h : SO B (.slice (some ⟨g, 0, none⟩) n cap) ps w) (i : Nat) :
 w.frozen? ⟨g, i * 2, none⟩ = false ∧ w.frozen? ⟨g, i * 2 + 1, none⟩ = false := by
 obtain ⟨cells, hc⟩ := own_typed h.own g rfl
 exact ⟨free_of hc _, free_of hc _⟩
theorem SO.cells {B g cap n : Nat} {ps : List (S73 × Value)} {w : World} (h : SO B (.slice (some ⟨g, 0, none⟩) n cap) ps w) (hn : 0 < ps.length) :
 ∃ cur : List Value, w.heap[g]? = some (.cells cur.toArray 73 (0, 0)) ∧ cur.length = cap * 2 ∧ cur.take (ps.length * 2) = flat ps := by
 obtain ⟨h1, h3 | ⟨g', cap', cur', hv, a1, a2, a3, a4, a5, a6⟩⟩ := h.own
 ·omega
 injection hv with e1 e2 e3
 injection e1 with e1
 injection e1 with e1
 subst e1 e3
 exact ⟨cur'.toList, by simpa using a2, by simpa using a5, a6⟩
theorem cut31 (g n cap i : Nat) (hi : i ≤ n) (x : Int) (hx : x = (i : Int)) (W : World) : (Instr.slice 31 (.slice (some ⟨g, 0, none⟩) n cap) (some (.int .i64 x)) none none).run Tryz.prog W = .ok (.slice (if cap = i then some ⟨g, 0, none⟩ else some ⟨g, i * 2, none⟩) (n - i) (cap - i)) W := by
 subst hx
 have hel : Tryz.prog.elem 31 = 73 := by simp [Program.elem, Tryz.underlying31]
 have hu : Tryz.prog.underlying 31 = some (.slice (Tryz.prog.elem 31)) := by rw [hel]; exact Tryz.underlying31
 obtain ⟨k, hk, hz⟩ := Option.map_eq_some_iff.1 inf73
 simp only [Prod.mk.injEq] at hz
 rw [run_slice_l W 31 _ n cap hu .i64 (i : Int) (Int.natCast_nonneg _) (by omega), hel]
 simp [sizeOf, typeInfo, hk, hz, sliced, Result.andThen, plain_add]
def insP (ps : List (S73 × Value)) (j : Nat) (q : S73 × Value) : List (S73 × Value) := ps.take j ++ q :: ps.drop j
theorem insP_fst (ps : List (S73 × Value)) (j : Nat) (q : S73 × Value) : (insP ps j q).map (·.1) = (ps.map (·.1)).take j ++ q.1 :: (ps.map (·.1)).drop j := by
 simp [insP, List.map_take, List.map_drop]
theorem insP_set (ps : List (S73 × Value)) (j : Nat) (hj : j ≤ ps.length) (q : S73 × Value) : ((ps ++ [pz]).take (j + 1) ++ ps.drop j).set j q = insP ps j q := by
 have e : (ps ++ [pz]).take (j + 1) = ps.take j ++ [((ps ++ [pz])[j]'(by simp; omega))] := by
  rw [List.take_succ_eq_append_getElem (by simp; omega), List.take_append_of_le_length hj]
 have hl : (ps.take j).length = j := by rw [List.length_take, Nat.min_eq_left hj]
 rw [e, List.append_assoc, List.set_append_right _ _ (by omega), hl, Nat.sub_self]
 rfl
end HH
end Go.Proofs.YtclmjmfcggkpaaaGreatDoor
set_option linter.unusedVariables false
set_option linter.unusedSimpArgs false
namespace Go.Proofs.YtclmjmfcggkpaaaGreatDoor
open Go.RowKit Go.Proofs.YtclmjmfcggkpaaaGreatDoorW.PrintWords Go.Proofs.YtclmjmfcggkpaaaGreatDoorW.PrintLast Go.Proofs.YtclmjmfcggkpaaaGreatDoorW.PrintMore
open PX
open Go.ChangeMaps (setBlock)
namespace HH
open H
/-! ### Header.Get, Header.Del -/
end HH
end Go.Proofs.YtclmjmfcggkpaaaGreatDoor
