import Derived.Test.YtclmjmfcggkpaaaGreatDoorU32
import Derived.Deep.RegionHeld3
set_option linter.unusedVariables false
set_option linter.unusedSimpArgs false
namespace Go.Proofs.YtclmjmfcggkpaaaGreatDoor
open Go.RowKit Go.Proofs.YtclmjmfcggkpaaaGreatDoorW.PrintWords Go.Proofs.YtclmjmfcggkpaaaGreatDoorW.PrintLast Go.Proofs.YtclmjmfcggkpaaaGreatDoorW.PrintMore
open PX
namespace HH
open H
/-! ### An encoder with a query's map and a header map, both of which change -/
def XQ (eb : Nat) (C : Nat → Prop) (s : Nat) (k : Nat) : Prop := k = eb ∨ (¬ C k ∧ k < s)
def XH (eb : Nat) (C : Nat → Prop) (k : Nat) : Prop := k = eb ∨ C k
def Short (n : Nat) (T : ByteArray → Option (List ByteArray)) : Prop := ∀ k x, T k = some x → x.length ≤ n
theorem Short.mono {n n' : Nat} {T : ByteArray → Option (List ByteArray)} (h : Short n T) (hn : n ≤ n') : Short n' T := fun k x hx => Nat.le_trans (h k x hx) hn
theorem Short.put {n : Nat} {T : ByteArray → Option (List ByteArray)} (h : Short n T) (key val : ByteArray) (add : Bool) : Short (n + 1) (putT T key val add) := by
 intro k x hx
 unfold putT upT at hx
 split at hx
 ·obtain rfl := Option.some.inj hx
  cases add
  ·simp
  ·cases ht : T key with
   | none => simp [ht]
   | some y => have := h key y ht; simp [ht]; omega
 ·have := h k x hx; omega
theorem HMq.more {B : Nat} {X : Nat → Prop} {m n n' : Nat} {T : ByteArray → Option (List ByteArray)} {w : World} (h : HMq B X m n T w) (hn : n ≤ n') : HMq B X m n' T w := by
 obtain ⟨rs, clock, h1, h2, h3⟩ := h.out
 exact ⟨rs, clock, h1, h2, Nat.le_trans h3 hn⟩
structure HasI (B eb qm mh n : Nat) (Tq Th : ByteArray → Option (List ByteArray)) (w : World) : Prop where
 col : ∃ C : Nat → Prop, (∀ k, C k → k < w.heap.size) ∧ ¬ C eb ∧ HMq B (XH eb C) mh n Th w ∧ HMq B (XQ eb C w.heap.size) qm n Tq w
 enc : ∃ v0 v1 v2, w.heap[eb]? = some (.cells #[v0, v1, v2, .map (some qm), .map (some mh)] 131 (0, 0))
 sq : Short n Tq
 sh : Short n Th
theorem HasI.calm {B eb qm mh n : Nat} {Tq Th : ByteArray → Option (List ByteArray)} {w w' : World} (h : HasI B eb qm mh n Tq Th w) (hb : Below w.heap.size w w') : HasI B eb qm mh n Tq Th w' := by
 obtain ⟨C, h1, h2, h3, h4⟩ := h.col
 obtain ⟨v0, v1, v2, he⟩ := h.enc
 have hs := hb.size
 refine ⟨⟨C, fun k hk => by have := h1 k hk; omega, h2, h3.calm hb, (h4.re (fun k hk => ?_)).calm hb⟩, ⟨v0, v1, v2, heap_below hb he⟩, h.sq, h.sh⟩
 rcases hk with e | ⟨e1, e2⟩
 ·exact .inl (.inl e)
 ·by_cases hlt : k < w.heap.size
  ·exact .inl (.inr ⟨e1, hlt⟩)
  ·exact .inr (by omega)
theorem HasI.cells {B eb qm mh n : Nat} {Tq Th : ByteArray → Option (List ByteArray)} {w : World} (h : HasI B eb qm mh n Tq Th w) : eb < w.heap.size ∧ w.cell? ⟨eb, 3, none⟩ = some (.map (some qm)) ∧ w.cell? ⟨eb, 4, none⟩ = some (.map (some mh)) := by
 obtain ⟨v0, v1, v2, he⟩ := h.enc
 refine ⟨lt_of he, ?_, ?_⟩
 ·rw [cell_at he]; rfl
 ·rw [cell_at he]; rfl
/-- A field that goes into the header map. -/
theorem HasI.hdr {B eb qm mh n : Nat} {Tq Th : ByteArray → Option (List ByteArray)} {w : World} (h : HasI B eb qm mh n Tq Th w) (hn : n ≤ 1000000) {f : FuncId} {args : Array Value} {key val : ByteArray} {add : Bool}
 (hc : ∀ X : Nat → Prop, MapIn B X mh n Th w → Calls Tryz.prog f args w (PutE B X mh n (putT Th key val add) w)) :
 Calls Tryz.prog f args w fun e w' => e = .returned .nilIface ∧ HasI B eb qm mh (n + 1) Tq (putT Th key val add) w' ∧ Fr (fun k => B ≤ k ∧ k ≠ eb) w w' := by
 obtain ⟨C, h1, h2, h3, h4⟩ := h.col
 obtain ⟨v0, v1, v2, he⟩ := h.enc
 have hlt := lt_of he
 refine (hc (XH eb C) ⟨h3, fun k hk => ?_, fun k x hx => Nat.le_trans (h.sh k x hx) hn⟩).mono ?_
 ·rcases hk with e | e
  ·omega
  ·exact h1 k e
 ·rintro e w' ⟨he', hq, hf⟩
  have hs := hf.size
  refine ⟨he', ⟨⟨C, fun k hk => by have := h1 k hk; omega, h2, hq, ?_⟩, ⟨v0, v1, v2, hf.heap he (fun e => e.2 (.inl rfl))⟩, h.sq.mono (Nat.le_succ _), h.sh.put key val add⟩, hf.mono (fun k _ hk => ⟨hk.1, fun e => hk.2 (.inl e)⟩)⟩
  refine ((h4.re (X' := XQ eb C w'.heap.size) (fun k hk => ?_)).frX (S := XQ eb C w'.heap.size) (hf.mono (fun k hk hS => ?_)) (fun _ hk => hk)).more (Nat.le_succ _)
  ·rcases hk with e | ⟨e1, e2⟩
   ·exact .inl (.inl e)
   ·by_cases hlt : k < w.heap.size
    ·exact .inl (.inr ⟨e1, hlt⟩)
    ·exact .inr (by omega)
  ·exact .inr ⟨fun hC => hS.2 (.inr hC), by omega⟩
/-- A field that goes into the query's map. -/
theorem HasI.qry {B eb qm mh n : Nat} {Tq Th : ByteArray → Option (List ByteArray)} {w : World} (h : HasI B eb qm mh n Tq Th w) (hn : n ≤ 1000000) {f : FuncId} {args : Array Value} {key val : ByteArray} {add : Bool}
 (hc : ∀ X : Nat → Prop, MapIn B X qm n Tq w → Calls Tryz.prog f args w (PutE B X qm n (putT Tq key val add) w)) :
 Calls Tryz.prog f args w fun e w' => e = .returned .nilIface ∧ HasI B eb qm mh (n + 1) (putT Tq key val add) Th w' ∧ Fr (fun k => B ≤ k ∧ k ≠ eb) w w' := by
 obtain ⟨C, h1, h2, h3, h4⟩ := h.col
 obtain ⟨v0, v1, v2, he⟩ := h.enc
 have hlt := lt_of he
 refine (hc (XQ eb C w.heap.size) ⟨h4, fun k hk => ?_, fun k x hx => Nat.le_trans (h.sq k x hx) hn⟩).mono ?_
 ·rcases hk with e | e
  ·omega
  ·exact e.2
 ·rintro e w' ⟨he', hq, hf⟩
  have hs := hf.size
  refine ⟨he', ⟨⟨fun k => C k ∨ (w.heap.size ≤ k ∧ k < w'.heap.size), fun k hk => ?_, ?_, ?_, ?_⟩, ⟨v0, v1, v2, hf.heap he (fun e => e.2 (.inl rfl))⟩, h.sq.put key val add, h.sh.mono (Nat.le_succ _)⟩, hf.mono (fun k _ hk => ⟨hk.1, fun e => hk.2 (.inl e)⟩)⟩
  ·rcases hk with e | e
   ·have := h1 k e; omega
   ·exact e.2
  ·rintro (e | e)
   ·exact h2 e
   ·omega
  ·refine ((h3.re (X' := XH eb (fun k => C k ∨ (w.heap.size ≤ k ∧ k < w'.heap.size))) (fun k hk => ?_)).frX (S := XH eb (fun k => C k ∨ (w.heap.size ≤ k ∧ k < w'.heap.size))) (hf.mono (fun k hk hS => ?_)) (fun _ hk => hk)).more (Nat.le_succ _)
   ·rcases hk with e | e | e
    ·exact .inl (.inl e)
    ·exact .inl (.inr e)
    ·exact .inr e.1
   ·by_cases hC : C k
    ·exact .inr (.inl hC)
    ·exact absurd (.inr ⟨hC, hk⟩) hS.2
  ·refine hq.re (fun k hk => .inl ?_)
   rcases hk with e | ⟨e1, e2⟩
   ·exact .inl e
   ·exact .inr ⟨fun hC => e1 (.inl hC), Nat.lt_of_not_le (fun h => e1 (.inr ⟨h, e2⟩))⟩
/-! ### Which keys are there -/
def isQ (f : S48) : Prop := f.f0 = 1 ∨ f.f0 = 2
def hk (f : S48) : ByteArray := hkey f.f0 f.f1 f.f2
structure Told (fs : List S48) (i : Nat) (Tq Th : ByteArray → Option (List ByteArray)) : Prop where
 gq : Good Tq
 gh : Some1 Th
 kq : ∀ q, (Tq q).isSome = true ↔ ∃ f ∈ fs.take i, isQ f ∧ f.f2 = q
 kh : ∀ q, (Th q).isSome = true ↔ ∃ f ∈ fs.take i, 3 ≤ f.f0 ∧ hk f = q
theorem put_some {T : ByteArray → Option (List ByteArray)} (key val : ByteArray) (add : Bool) (q : ByteArray) : (putT T key val add q).isSome = true ↔ key = q ∨ (T q).isSome = true := by
 unfold putT upT
 by_cases h : key = q
 ·rw [if_pos h]; simp [h]
 ·rw [if_neg h]; simp [h]
theorem Good.put {T : ByteArray → Option (List ByteArray)} (h : Good T) (key val : ByteArray) (add : Bool) (hv : val.size ≠ 0) : Good (putT T key val add) := by
 intro q
 unfold putT upT
 by_cases hq : key = q
 ·rw [if_pos hq]
  right
  cases add
  ·exact ⟨val, [], rfl, hv⟩
  ·rcases h key with e | ⟨v, r, e, e'⟩
   ·exact ⟨val, [], by simp [e], hv⟩
   ·exact ⟨v, r ++ [val], by simp [e], e'⟩
 ·rw [if_neg hq]; exact h q
theorem Some1.put {T : ByteArray → Option (List ByteArray)} (h : Some1 T) (key val : ByteArray) (add : Bool) : Some1 (putT T key val add) := by
 intro q
 unfold putT upT
 by_cases hq : key = q
 ·rw [if_pos hq]
  right
  cases add
  ·exact ⟨val, [], rfl⟩
  ·rcases h key with e | ⟨v, r, e⟩
   ·exact ⟨val, [], by simp [e]⟩
   ·exact ⟨v, r ++ [val], by simp [e]⟩
 ·rw [if_neg hq]; exact h q
theorem take_ex {fs : List S48} {i : Nat} {f : S48} (hf : fs[i]? = some f) (P : S48 → Prop) : (∃ g ∈ fs.take (i + 1), P g) ↔ P f ∨ ∃ g ∈ fs.take i, P g := by
 have hlt := (List.getElem?_eq_some_iff.1 hf).1
 have he := (List.getElem?_eq_some_iff.1 hf).2
 rw [List.take_succ_eq_append_getElem hlt, he]
 constructor
 ·rintro ⟨g, hg, hp⟩
  rcases List.mem_append.1 hg with hg | hg
  ·exact .inr ⟨g, hg, hp⟩
  ·obtain rfl := List.mem_singleton.1 hg; exact .inl hp
 ·rintro (hp | ⟨g, hg, hp⟩)
  ·exact ⟨f, List.mem_append.2 (.inr (List.mem_singleton.2 rfl)), hp⟩
  ·exact ⟨g, List.mem_append.2 (.inl hg), hp⟩
theorem Told.qry {fs : List S48} {i : Nat} {Tq Th : ByteArray → Option (List ByteArray)} (h : Told fs i Tq Th) {f : S48} (hf : fs[i]? = some f) (hq : isQ f) (val : ByteArray) (add : Bool) (hv : val.size ≠ 0) : Told fs (i + 1) (putT Tq f.f2 val add) Th := by
 refine ⟨h.gq.put _ _ _ hv, h.gh, fun q => ?_, fun q => ?_⟩
 ·rw [put_some, take_ex hf (fun g => isQ g ∧ g.f2 = q), h.kq]
  exact ⟨fun h => h.elim (fun e => .inl ⟨hq, e⟩) .inr, fun h => h.elim (fun e => .inl e.2) .inr⟩
 ·rw [take_ex hf (fun g => 3 ≤ g.f0 ∧ hk g = q), h.kh]
  exact ⟨.inr, fun h => h.resolve_left (fun e => by unfold isQ at hq; omega)⟩
theorem Told.hdr {fs : List S48} {i : Nat} {Tq Th : ByteArray → Option (List ByteArray)} (h : Told fs i Tq Th) {f : S48} (hf : fs[i]? = some f) (hq : 3 ≤ f.f0) (val : ByteArray) (add : Bool) : Told fs (i + 1) Tq (putT Th (hk f) val add) := by
 refine ⟨h.gq, h.gh.put _ _ _, fun q => ?_, fun q => ?_⟩
 ·rw [take_ex hf (fun g => isQ g ∧ g.f2 = q), h.kq]
  exact ⟨.inr, fun h => h.resolve_left (fun e => by have := e.1; unfold isQ at this; omega)⟩
 ·rw [put_some, take_ex hf (fun g => 3 ≤ g.f0 ∧ hk g = q), h.kh]
  exact ⟨fun h => h.elim (fun e => .inl ⟨hq, e⟩) .inr, fun h => h.elim (fun e => .inl e.2) .inr⟩
/-- A field that may be put. -/
structure OkP (f : S48) : Prop where
 kind : 0 ≤ f.f3 ∧ f.f3 ≤ 6
 num : -9223372036854775808 ≤ f.f5 ∧ f.f5 ≤ 9223372036854775807
 text : f.f4.size ≤ 2147483647
 wh : (isQ f ∧ (txt f.f3 f.f4 f.f5).size ≠ 0) ∨ ((3 ≤ f.f0 ∧ f.f0 ≤ 6) ∧ noSp f.f2 ∧ (5 ≤ f.f0 → noSp f.f1) ∧ f.f1.size + f.f2.size ≤ 1099511627776)
theorem putI_call {B eb qm mh i : Nat} {fs : List S48} {Tq Th : ByteArray → Option (List ByteArray)} {w : World} (h : HasI B eb qm mh i Tq Th w) (ht : Told fs i Tq Th) (hi : i ≤ 1000000) (hP : Pow w) (hS : Spc w) {f : S48} (hf : fs[i]? = some f) (ok : OkP f) :
 Calls Tryz.prog 46 #[.pointer (some ⟨eb, 0, none⟩), FS f] w fun e w' => e = .returned .nilIface ∧ ∃ Tq' Th', HasI B eb qm mh (i + 1) Tq' Th' w' ∧ Told fs (i + 1) Tq' Th' ∧ Fr (fun k => B ≤ k ∧ k ≠ eb) w w' := by
 obtain ⟨hlt, c3, c4⟩ := h.cells
 unfold FS
 rcases ok.wh with ⟨h1, h2⟩ | ⟨h1, h2, h3, h4⟩
 ·refine (h.qry hi (key := f.f2) (val := txt f.f3 f.f4 f.f5) (add := decide (f.f0 = 2)) (fun X hM => put_q hM hP c3 f.f0 h1 f.f1 f.f2 f.f3 ok.kind f.f4 f.f5 ok.num ok.text)).mono ?_
  rintro e w' ⟨he, q1, q2⟩
  exact ⟨he, _, _, q1, ht.qry hf h1 _ _ h2, q2⟩
 ·refine (h.hdr hi (key := hk f) (val := txt f.f3 f.f4 f.f5) (add := decide (f.f0 = 4) || decide (f.f0 = 6)) (fun X hM => put_hdr hM hP hS c4 f.f0 h1 f.f1 f.f2 h2 h3 h4 f.f3 ok.kind f.f4 f.f5 ok.num ok.text)).mono ?_
  rintro e w' ⟨he, q1, q2⟩
  exact ⟨he, _, _, q1, ht.hdr hf h1.1 _ _, q2⟩
end HH
end Go.Proofs.YtclmjmfcggkpaaaGreatDoor
set_option linter.unusedVariables false
set_option linter.unusedSimpArgs false
namespace Go.Proofs.YtclmjmfcggkpaaaGreatDoor
open Go.RowKit Go.Proofs.YtclmjmfcggkpaaaGreatDoorW.PrintWords Go.Proofs.YtclmjmfcggkpaaaGreatDoorW.PrintLast Go.Proofs.YtclmjmfcggkpaaaGreatDoorW.PrintMore
open PX
namespace HH
open H
/-! ### impl.Has -/
theorem hasI_start {w w1 : World} {C eb qm mh : Nat} (hE : EncK C eb qm mh [47] [47] w1) (hQ : HMq C (fun k => k = eb) mh 0 (fun _ => none) w1) (hC : w.heap.size ≤ C) (hq : w.heap.size ≤ qm) : HasI w.heap.size eb qm mh 0 (fun _ => none) (fun _ => none) w1 := by
 obtain ⟨g, g2, z1, z2, h1, h2, h3, h4, h5, h6, h7, h8, h9, h10, h11, h12, h13, h14, h15⟩ := hE
 obtain ⟨rs, clock, k1, k2, k3⟩ := hQ.out
 obtain rfl := List.eq_nil_of_length_eq_zero (Nat.le_zero.1 k3)
 have hg := k1.geB
 refine ⟨⟨fun k => k = qm, fun k hk => by rw [hk]; exact lt_of h15, fun e => by omega, ?_, ?_⟩, ⟨_, _, _, h1⟩, (fun _ _ h => by (try dsimp only at h); cases h), (fun _ _ h => by (try dsimp only at h); cases h)⟩
 ·refine ⟨[], clock, ⟨k1.obj, (fun _ h => by cases h), List.nodup_nil, List.nodup_nil, (fun _ h => by cases h), List.Pairwise.nil, by omega, ?_⟩, fun _ => rfl, Nat.le_refl _⟩
  rintro (e | e)
  ·exact k1.neN e
  ·omega
 ·refine ⟨[], 0, ⟨h15, (fun _ h => by cases h), List.nodup_nil, List.nodup_nil, (fun _ h => by cases h), List.Pairwise.nil, hq, ?_⟩, fun _ => rfl, Nat.le_refl _⟩
  rintro (e | e)
  ·omega
  ·exact e.1 rfl
theorem told_zero (fs : List S48) : Told fs 0 (fun _ => none) (fun _ => none) :=
 ⟨fun _ => .inl rfl, fun _ => .inl rfl, fun q => by simp, fun q => by simp⟩
set_option maxHeartbeats 4000000 in
set_option maxRecDepth 100000 in
theorem has_call (fs : List S48) (A0 : Option Addr) (c0 : Nat) (q h : ByteArray) (w : World) (hP : Pow w) (hS : Spc w)
 (hr0 : Kd.C k48 w A0 fs.length fs) (hc0 : fs.length ≤ c0) (hn : fs.length ≤ 200) (hok : ∀ f ∈ fs, OkP f) :
 Calls Tryz.prog 36 #[.slice A0 fs.length c0, .string q, .string h] w fun e w' => ∃ Tq Th : ByteArray → Option (List ByteArray),
  e = .returned (.tuple #[.bool (Tq q).isSome, .bool (Th h).isSome]) ∧ Told fs fs.length Tq Th ∧ Below w.heap.size w w' := by
 have hmm' := @run_makeMap Tryz.prog
 replace hP := Aside0.mk hP; replace hS := Aside0.mk hS; replace hr0 := Aside0.mk hr0; replace hc0 := Aside0.mk hc0; replace hok := Aside0.mk hok
 go_enter Tryz.func36, Tryz.ntmps36
 go_wp2_with fail
 have hbb := below_alloc (Below.refl w.heap.size w) (.map #[] 0)
 have hM0 := HMr.made w (fun _ => False) (fun _ h => h.elim)
 generalize w.alloc (.map #[] 0) = W0 at *
 refine (newH_call ⟨#[47]⟩ W0 hM0 (fun r hr => by cases hr) (by decide)).mono ?_
 rintro e w1 ⟨C, eb, qm, mh, rfl, hE, hQ, hCge, hb1, hqm⟩
 have hbs := hbb.size
 have hI1 : Aside0 (HasI w.heap.size eb qm mh 0 (fun _ => none) (fun _ => none) w1) := .mk (hasI_start hE (hQ.eqT (fun _ => rfl)) (by omega) (by omega))
 have hB1 := Aside0.mk (below_then hbb hbs hb1)
 have hCB : Aside0 (w.heap.size ≤ eb) := .mk (by have := hE.lt.2; omega)
 have hT1 := Aside0.mk (told_zero fs)
 clear hE hQ hCge hb1 hqm hM0 hbb hbs
 go_wp2_with fail
 go_loopg [21] fs.length (fun g v21 w' => ∃ (k : Nat) (Tq Th : ByteArray → Option (List ByteArray)), k ≤ fs.length ∧ v21 = .int .i64 k ∧ Aside0 (g = fs.length - k) ∧ Aside0 (HasI w.heap.size eb qm mh k Tq Th w') ∧ Aside0 (Told fs k Tq Th) ∧ Aside0 (Below w.heap.size w w'))
 case atStart => exact ⟨0, _, _, Nat.zero_le _, rfl, ⟨by omega⟩, hI1, hT1, hB1⟩
 case round =>
  clear hI1 hT1 hB1
  obtain ⟨k, Tq, Th, hk2, rfl, hg2, hI, hT, hB⟩ := hrel
  by_cases hlt2 : k < fs.length
  ·obtain ⟨ad, rfl, x0, x1, x2, x3, x4, x5⟩ := at_T48 hr0.out (k : Int) (by omega) (by omega)
   replace x0 := (hB.out.cell (World.block_lt_of_cell? w _ x0)).trans x0
   replace x1 := (hB.out.cell (World.block_lt_of_cell? w _ x1)).trans x1
   replace x2 := (hB.out.cell (World.block_lt_of_cell? w _ x2)).trans x2
   replace x3 := (hB.out.cell (World.block_lt_of_cell? w _ x3)).trans x3
   replace x4 := (hB.out.cell (World.block_lt_of_cell? w _ x4)).trans x4
   replace x5 := (hB.out.cell (World.block_lt_of_cell? w _ x5)).trans x5
   simp only [Int.toNat_natCast] at x0 x1 x2 x3 x4 x5
   have hat : fs[k]? = some (rd_T48 fs k) := by simp [rd_T48, List.getElem?_eq_getElem hlt2]
   have hokk := hok.out _ (List.mem_of_getElem? hat)
   generalize rd_T48 fs k = fk at *
   replace hat := Aside0.mk hat
   replace hokk := Aside0.mk hokk
   go_wp2_with (first | ((with_reducible refine gate_dst (N := 11) rfl ?_); refine box_event ?hg (N := 11) ?hd (cs := #[.int .i64 0, .string (⟨#[]⟩ : ByteArray), .string (⟨#[]⟩ : ByteArray), .int .i64 0, .string (⟨#[]⟩ : ByteArray), .int .i64 0]) (t := 48) ?hr ?_; (case hd => rfl); (case hg => rfl); (case hr => first | (go_simp; done) | (go_simp; rfl)); intro fb hfb w2 hbox hb2; have hz0 := cell_at hbox 0; have hz1 := cell_at hbox 1; have hz2 := cell_at hbox 2; have hz3 := cell_at hbox 3; have hz4 := cell_at hbox 4; have hz5 := cell_at hbox 5; have hy0 := free_of hbox 0; have hy1 := free_of hbox 1; have hy2 := free_of hbox 2; have hy3 := free_of hbox 3; have hy4 := free_of hbox 4; have hy5 := free_of hbox 5; simp at hz0 hz1 hz2 hz3 hz4 hz5; replace hb2 := Aside0.mk hb2; replace hbox := Aside0.mk hbox; replace hfb := Aside0.mk hfb))
   have hle : wr.heap.size ≤ fb := by rw [hfb.out]; exact Nat.le_refl _
   have hb3 := (((((hb2.out.setCell (p := ⟨fb, 0, none⟩) hle (.int .i64 fk.f0)).setCell (p := ⟨fb, 1, none⟩) hle (.string fk.f1)).setCell (p := ⟨fb, 2, none⟩) hle (.string fk.f2)).setCell (p := ⟨fb, 3, none⟩) hle (.int .i64 fk.f3)).setCell (p := ⟨fb, 4, none⟩) hle (.string fk.f4)).setCell (p := ⟨fb, 5, none⟩) hle (.int .i64 fk.f5)
   generalize (((((w2.setCell ⟨fb, 0, none⟩ (.int .i64 fk.f0)).setCell ⟨fb, 1, none⟩ (.string fk.f1)).setCell ⟨fb, 2, none⟩ (.string fk.f2)).setCell ⟨fb, 3, none⟩ (.int .i64 fk.f3)).setCell ⟨fb, 4, none⟩ (.string fk.f4)).setCell ⟨fb, 5, none⟩ (.int .i64 fk.f5) = w3 at *
   have hB3 := below_then hB.out hB.out.size hb3
   have hcall := putI_call (hI.out.calm hb3) hT.out (by omega) (hP.out.below hB3) (hS.out.calm hB3) hat.out hokk.out
   unfold FS FV at hcall
   refine hcall.mono ?_
   rintro e w4 ⟨rfl, Tq', Th', hI4, hT4, hf4⟩
   clear x0 x1 x2 x3 x4 x5 hz0 hz1 hz2 hz3 hz4 hz5 hy0 hy1 hy2 hy3 hy4 hy5 hcall
   have hB4 := Aside0.mk (hB3.trans (hf4.below (B := w.heap.size) hB3.size (fun j _ h => h.1)))
   replace hI4 := Aside0.mk hI4
   replace hT4 := Aside0.mk hT4
   clear hI hT hB hB3 hf4 hb3
   go_wp2_with fail
   go_roundg (fs.length - (k + 1))
   case rel => exact ⟨k + 1, Tq', Th', by omega, by go_num, ⟨rfl⟩, hI4, hT4, hB4⟩
   case measure => have := hg2.out; omega
  ·obtain rfl : k = fs.length := by omega
   obtain ⟨v0, v1, v2, he⟩ := hI.out.enc
   obtain ⟨Cc, _, _, hMh, hMq⟩ := hI.out.col
   have hq1 := fun (w' : World) (hb : Below wr.heap.size wr w') => hasq_call (hMq.calm hb) hT.out.gq ((hI.out.calm hb).cells.2.1) q
   have hh1 := fun (w' : World) (hb : Below wr.heap.size wr w') => hash_call (qm := qm) (hMh.calm hb) hT.out.gh v0 v1 v2 h
   have e0 := cell_at he 0; have e1 := cell_at he 1; have e2 := cell_at he 2; have e3 := cell_at he 3; have e4 := cell_at he 4
   simp at e0 e1 e2 e3 e4
   replace hq1 := Aside0.mk hq1; replace hh1 := Aside0.mk hh1; replace he := Aside0.mk he
   obtain ⟨bq, hbq⟩ : ∃ b, b = (Tq q).isSome := ⟨_, rfl⟩
   obtain ⟨bh, hbh⟩ : ∃ b, b = (Th h).isSome := ⟨_, rfl⟩
   rw [← hbq] at hq1
   rw [← hbh] at hh1
   replace hbq := Aside0.mk hbq; replace hbh := Aside0.mk hbh
   clear hMh hMq hI
   go_wp2_with fail
   have hd0 := below_drew (Below.refl wr.heap.size wr)
   go_region_held3 (fun w' => w'.cell? ⟨eb, 0, none⟩ = some v0 ∧ w'.cell? ⟨eb, 1, none⟩ = some v1 ∧ w'.cell? ⟨eb, 2, none⟩ = some v2 ∧ w'.cell? ⟨eb, 3, none⟩ = some (.map (some qm)) ∧ w'.cell? ⟨eb, 4, none⟩ = some (.map (some mh)) ∧ Below wr.heap.size wr w') (simp [*]) (first | ((go_at_call 63; have hSS : _ ∧ _ ∧ _ ∧ _ ∧ _ ∧ Below wr.heap.size wr _ := (by assumption); obtain ⟨s0, s1, s2, s3, s4, sB⟩ := hSS; refine (hq1.out _ sB).mono ?_; rintro e w8 ⟨rfl, rfl⟩)) | ((go_at_call 64; have hSS : _ ∧ _ ∧ _ ∧ _ ∧ _ ∧ Below wr.heap.size wr _ := (by assumption); obtain ⟨s0, s1, s2, s3, s4, sB⟩ := hSS; refine (hh1.out _ sB).mono ?_; rintro e w9 ⟨rfl, hb9⟩; have t0 := cell_later hb9 s0; have t1 := cell_later hb9 s1; have t2 := cell_later hb9 s2; have t3 := cell_later hb9 s3; have t4 := cell_later hb9 s4; have tB := below_then sB sB.size hb9; clear s0 s1 s2 s3 s4 sB; replace hb9 := Aside0.mk hb9)))
   all_goals
    have hSS : _ ∧ _ ∧ _ ∧ _ ∧ _ ∧ Below wr.heap.size wr _ := (by assumption)
    have hBB := Aside0.mk (below_then hB.out hB.out.size hSS.2.2.2.2.2)
    clear hSS
    go_wp2
    go_ret2
    exact ⟨Tq, Th, by rw [← hbq.out, ← hbh.out]; rfl, hT.out, hBB.out⟩
end HH
end Go.Proofs.YtclmjmfcggkpaaaGreatDoor
