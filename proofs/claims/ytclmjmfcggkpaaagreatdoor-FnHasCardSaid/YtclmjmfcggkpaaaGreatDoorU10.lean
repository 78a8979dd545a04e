import Derived.Test.YtclmjmfcggkpaaaGreatDoorU9
import Derived.Test.YtclmjmfcggkpaaaGreatDoorU7
import Derived.Maps.RangeRun
import Derived.MapKept
set_option linter.unusedVariables false
set_option linter.unusedSimpArgs false
namespace Go.Proofs.YtclmjmfcggkpaaaGreatDoor
open Go.RowKit Go.Proofs.YtclmjmfcggkpaaaGreatDoorW.PrintWords Go.Proofs.YtclmjmfcggkpaaaGreatDoorW.PrintLast Go.Proofs.YtclmjmfcggkpaaaGreatDoorW.PrintMore
open PX
open Go.ChangeMaps (setBlock)
namespace HH
open H
/-! ### Maps of rows of texts -/
structure MR where
 key : ByteArray
 val : Value
 xs : List ByteArray
 born : Nat
def MR.ent (r : MR) : MapEntry := ⟨.string r.key, r.val, r.born⟩
def MR.hd (r : MR) : S73 := ⟨r.key, r.xs⟩
theorem fr_setBlock {S : Nat → Prop} (w : World) (m : Nat) (o : Obj) (hm : S m ∨ w.heap.size ≤ m) : Fr S w (setBlock w m o) :=
 ⟨rfl, rfl, rfl, by simp [setBlock], fun k hk hn => by
  have : m ≠ k := by rintro rfl; rcases hm with h | h; exact hn h; omega
  show (w.heap.setIfInBounds m o)[k]? = _
  simp [this]⟩
theorem at_setBlock {w : World} {m : Nat} {o : Obj} (hm : w.heap[m]? = some o) (o' : Obj) : (setBlock w m o').heap[m]? = some o' := by
 have := lt_of hm
 show (w.heap.setIfInBounds m o')[m]? = _
 simp [this]
theorem ent_keys (rs : List MR) : ∀ x ∈ rs.map MR.ent, MapKept.IsKey .string x.key := by
 intro x hx
 obtain ⟨r, _, rfl⟩ := List.mem_map.1 hx
 exact trivial
/-- Either no entry has the key, or one, told by its place. -/
theorem look_cases (rs : List MR) (key : ByteArray) :
 ((∀ r ∈ rs, r.key ≠ key) ∧ Instr.findNow .string (.string key) (rs.map MR.ent) 0 = some none) ∨
 ∃ (j : Nat) (r : MR), rs[j]? = some r ∧ r.key = key ∧ Instr.findNow .string (.string key) (rs.map MR.ent) 0 = some (some (j, r.val)) := by
 rcases MapKept.findNow_spec (d := .string) (k := .string key) trivial (rs.map MR.ent) 0 (ent_keys rs) with ⟨h1, h2⟩ | ⟨j, e, h1, h2, h3⟩
 ·refine .inl ⟨fun r hr e => h2 r.ent (List.mem_map.2 ⟨r, hr, rfl⟩) (by rw [← e]; rfl), h1⟩
 ·rw [List.getElem?_map] at h2
  obtain ⟨r, hr, rfl⟩ := Option.map_eq_some_iff.1 h2
  refine .inr ⟨j, r, hr, ?_, by rw [h1, Nat.zero_add]; rfl⟩
  have : Value.string r.key = .string key := h3
  injection this
theorem key_at {rs : List MR} (hn : (rs.map MR.key).Nodup) {i j : Nat} {a b : MR} (hi : rs[i]? = some a) (hj : rs[j]? = some b) (h : a.key = b.key) : i = j := by
 have hl := (List.getElem?_eq_some_iff.1 hi).1
 have hl2 := (List.getElem?_eq_some_iff.1 hj).1
 have ea := (List.getElem?_eq_some_iff.1 hi).2
 have eb := (List.getElem?_eq_some_iff.1 hj).2
 have hn := List.pairwise_iff_getElem.1 hn
 rcases Nat.lt_trichotomy i j with h' | h' | h'
 ·exact absurd (by rw [List.getElem_map, List.getElem_map, ea, eb, h]) (hn i j (by simpa using hl) (by simpa using hl2) h')
 ·exact h'
 ·exact absurd (by rw [List.getElem_map, List.getElem_map, ea, eb, h]) (hn j i (by simpa using hl2) (by simpa using hl) h')
theorem run_lookup {rs : List MR} {clock m : Nat} {w : World} (hm : w.heap[m]? = some (.map (rs.map MR.ent).toArray clock)) (key : ByteArray) (v : Value)
 (hv : (∀ r ∈ rs, r.key ≠ key) ∧ v = .slice none 0 0 ∨ ∃ r ∈ rs, r.key = key ∧ v = r.val) (hn : (rs.map MR.key).Nodup) :
 (Instr.lookup 76 (.map (some m)) (.string key) false).run Tryz.prog w = .ok v w := by
 have hu := Tryz.underlying76
 have hu9 := Tryz.underlying9
 have hi : (Tryz.prog.info? 67).map (·.zero) = some (some (.slice none 0 0)) := by kernel_rfl
 obtain ⟨i, hi, hz⟩ := Option.map_eq_some_iff.1 hi
 have hck := fun b => MapKept.run_checkKey (P := Tryz.prog) (w := w) (k := .string key) hu9 (by constructor) b 9999
 rcases look_cases rs key with ⟨h1, h2⟩ | ⟨j, r, h1, h2, h3⟩
 ·have hf := MapKept.run_findKey (P := Tryz.prog) (w := w) hu9 h2
  obtain rfl : v = .slice none 0 0 := by
   rcases hv with ⟨_, hv⟩ | ⟨r, hr, hk, _⟩
   ·exact hv
   ·exact absurd hk (h1 r hr)
  simp [Instr.lookup, run_underlying hu, Sem.run_bind, Result.andThen, MapKept.run_getObj_map hm, hck, hf, zeroValue, typeInfo, hi, hz]
 ·have hf := MapKept.run_findKey (P := Tryz.prog) (w := w) hu9 h3
  obtain rfl : v = r.val := by
   rcases hv with ⟨hno, _⟩ | ⟨r', hr', hk, rfl⟩
   ·exact absurd h2 (hno r (List.mem_of_getElem? h1))
   ·obtain ⟨j', hj'⟩ := List.mem_iff_getElem?.1 hr'
    obtain rfl := key_at hn h1 hj' (h2.trans hk.symm)
    rw [h1] at hj'
    rw [Option.some.inj hj']
  simp [Instr.lookup, run_underlying hu, Sem.run_bind, Result.andThen, MapKept.run_getObj_map hm, hck, hf]
theorem run_update_new {rs : List MR} {clock m : Nat} {w : World} (hm : w.heap[m]? = some (.map (rs.map MR.ent).toArray clock)) (key : ByteArray) (v : Value) (xs : List ByteArray) (hk : ∀ r ∈ rs, r.key ≠ key) :
 (Instr.mapUpdate 76 (.map (some m)) (.string key) v).run Tryz.prog w = .ok () (setBlock w m (.map ((rs ++ [(⟨key, v, xs, clock⟩ : MR)]).map MR.ent).toArray (clock + 1))) := by
 have hu := Tryz.underlying76
 have hu9 := Tryz.underlying9
 have hck := fun b => MapKept.run_checkKey (P := Tryz.prog) (w := w) (k := .string key) hu9 (by constructor) b 9999
 rcases look_cases rs key with ⟨h1, h2⟩ | ⟨j, r, h1, h2, h3⟩
 ·have hf := MapKept.run_findKey (P := Tryz.prog) (w := w) hu9 h2
  simp [Instr.mapUpdate, run_underlying hu, Sem.run_bind, Result.andThen, MapKept.run_getObj_map hm, hck, hf, MapKept.run_setObj_map _ hm, setBlock, MR.ent]
 ·exact absurd h2 (hk r (List.mem_of_getElem? h1))
theorem run_update_old {rs : List MR} {clock m : Nat} {w : World} (hm : w.heap[m]? = some (.map (rs.map MR.ent).toArray clock)) (key : ByteArray) (v : Value) (xs : List ByteArray) {j : Nat} {r : MR} (hj : rs[j]? = some r) (hk : r.key = key) (hn : (rs.map MR.key).Nodup) :
 (Instr.mapUpdate 76 (.map (some m)) (.string key) v).run Tryz.prog w = .ok () (setBlock w m (.map ((rs.set j ⟨key, v, xs, r.born⟩).map MR.ent).toArray clock)) := by
 have hu := Tryz.underlying76
 have hu9 := Tryz.underlying9
 have hck := fun b => MapKept.run_checkKey (P := Tryz.prog) (w := w) (k := .string key) hu9 (by constructor) b 9999
 rcases look_cases rs key with ⟨h1, h2⟩ | ⟨j', r', h1, h2, h3⟩
 ·exact absurd hk (h1 r (List.mem_of_getElem? hj))
 ·obtain rfl : j' = j := key_at hn h1 hj (h2.trans hk.symm)
  obtain rfl : r' = r := by rw [h1] at hj; exact Option.some.inj hj
  have hf := MapKept.run_findKey (P := Tryz.prog) (w := w) hu9 h3
  have hke := MapKept.run_keyThatStays (P := Tryz.prog) (w := w) (d := .string) (k := .string key) trivial
  have hget : ((rs.map MR.ent).toArray[j']?.map (·.key)).getD (.string key) = .string key := by
   simp [h1, MR.ent, hk]
  have hmod : (rs.map MR.ent).toArray.modify j' (fun e => { e with key := .string key, val := v }) = ((rs.set j' ⟨key, v, xs, r'.born⟩).map MR.ent).toArray := by
   apply Array.ext_getElem?
   intro i
   rw [Array.getElem?_modify, List.getElem?_toArray, List.getElem?_toArray, List.getElem?_map, List.getElem?_map, List.getElem?_set]
   by_cases hij : j' = i
   ·subst hij
    have hlt := (List.getElem?_eq_some_iff.1 h1).1
    rw [if_pos rfl, if_pos rfl, h1, if_pos hlt]
    rfl
   ·rw [if_neg hij, if_neg hij]
  simp only [Instr.mapUpdate, run_underlying hu, Sem.run_bind, Result.andThen, MapKept.run_getObj_map hm, hck, hf, hget, hke, MapKept.run_setObj_map _ hm, hmod]
  rfl
/-- The map at block m has the rows rs, each of its own, at or above B, none of them a block of X. -/
structure HMr (B : Nat) (X : Nat → Prop) (m : Nat) (rs : List MR) (clock : Nat) (w : World) : Prop where
 obj : w.heap[m]? = some (.map (rs.map MR.ent).toArray clock)
 below : ∀ r ∈ rs, r.born < clock
 born : (rs.map MR.born).Nodup
 keys : (rs.map MR.key).Nodup
 rows : ∀ r ∈ rs, Kd.string.R 9 w B (fun k => ¬ X k) r.val r.xs
 apart : rs.Pairwise (fun a b => ∀ k, a.val.ownBlock = some k → b.val.ownBlock ≠ some k)
 geB : B ≤ m
 neN : ¬ X m
namespace HMr
variable {B m clock : Nat} {X : Nat → Prop} {rs : List MR} {w w' : World}
theorem lt (h : HMr B X m rs clock w) : m < w.heap.size := lt_of h.obj
theorem rowM (h : HMr B X m rs clock w) {r : MR} (hr : r ∈ rs) {k : Nat} (hk : r.val.ownBlock = some k) : B ≤ k ∧ k < w.heap.size ∧ ¬ X k ∧ k ≠ m := by
 have hR := h.rows r hr
 obtain ⟨inner, ho⟩ := Kd.R_own hR
 refine ⟨own_base ho k hk, own_lt ho k hk, hR.1 k hk, ?_⟩
 rintro rfl
 obtain ⟨cells, hc⟩ := own_typed ho k hk
 rw [h.obj] at hc
 cases hc
theorem fr {S : Nat → Prop} (h : HMr B X m rs clock w) (hf : Fr S w w') (hm : ¬ S m) (hr : ∀ r ∈ rs, ∀ k, r.val.ownBlock = some k → ¬ S k) : HMr B X m rs clock w' :=
 ⟨hf.heap h.obj hm, h.below, h.born, h.keys, fun r hr' => Kd.R_mono (Kd.R_step (Kd.R_tight (by rfl) (h.rows r hr')) (fun k hk hlt => hf.block k hlt (hr r hr' k hk.symm))) (fun k hk => (h.rowM hr' hk.symm).2.2.1), h.apart, h.geB, h.neN⟩
theorem calm (h : HMr B X m rs clock w) (hb : Below w.heap.size w w') : HMr B X m rs clock w' :=
 h.fr (Fr.of_below (S := fun _ => False) hb) (fun h => h) (fun _ _ _ _ h => h)
theorem reN {X' : Nat → Prop} (h : HMr B X m rs clock w) (hX : ∀ k, X' k → X k ∨ w.heap.size ≤ k) : HMr B X' m rs clock w :=
 ⟨h.obj, h.below, h.born, h.keys, fun r hr => Kd.R_reok (by rfl) (h.rows r hr) (fun k hk h' => by
  have := h.rowM hr hk
  rcases hX k h' with h' | h'
  ·exact this.2.2.1 h'
  ·omega), h.apart, h.geB, fun h' => by
  have := h.lt
  rcases hX m h' with h' | h'
  ·exact h.neN h'
  ·omega⟩
/-- A new key. -/
theorem push (h : HMr B X m rs clock w) {w1 : World} {row : Option Nat} (hg : w.grownBy w1 row) (hrow : ∀ k, row = some k → w.heap.size ≤ k) {key : ByteArray} {v : Value} {xs : List ByteArray} (hk : ∀ r ∈ rs, r.key ≠ key)
 (hv : Kd.string.R 9 w1 B (fun k => ¬ X k) v xs) (hnew : ∀ k, v.ownBlock = some k → w.heap.size ≤ k) :
 HMr B X m (rs ++ [(⟨key, v, xs, clock⟩ : MR)]) (clock + 1) (setBlock w1 m (.map ((rs ++ [(⟨key, v, xs, clock⟩ : MR)]).map MR.ent).toArray (clock + 1))) := by
 have hf : Fr (fun k => k = m) w w1 := (Fr.refl _ w).grown hg (fun k hk => .inr (hrow k hk))
 have hobj1 : w1.heap[m]? = some (.map (rs.map MR.ent).toArray clock) := (hg.block m h.lt (fun e => by have := hrow m e.symm; have := h.lt; omega)).trans h.obj
 have hf2 : Fr (fun k => k = m) w (setBlock w1 m (.map ((rs ++ [(⟨key, v, xs, clock⟩ : MR)]).map MR.ent).toArray (clock + 1))) := hf.trans (fr_setBlock (S := fun k => k = m) w1 m _ (.inl rfl)) (fun _ _ h => h)
 have hlt := h.lt
 refine ⟨at_setBlock hobj1 _, ?_, ?_, ?_, ?_, ?_, h.geB, h.neN⟩
 ·intro r hr
  rcases List.mem_append.1 hr with hr | hr
  ·have := h.below r hr; omega
  ·obtain rfl := List.mem_singleton.1 hr; exact Nat.lt_succ_self _
 ·rw [List.map_append, List.nodup_append]
  refine ⟨h.born, by simp, ?_⟩
  intro a ha b hb
  obtain ⟨r, hr, rfl⟩ := List.mem_map.1 ha
  have := h.below r hr
  simp at hb
  omega
 ·rw [List.map_append, List.nodup_append]
  refine ⟨h.keys, by simp, ?_⟩
  intro a ha b hb
  obtain ⟨r, hr, rfl⟩ := List.mem_map.1 ha
  simp at hb
  subst hb
  exact hk r hr
 ·intro r hr
  rcases List.mem_append.1 hr with hr | hr
  ·refine Kd.R_reok (by rfl) (Kd.R_step (Kd.R_tight (by rfl) (h.rows r hr)) (fun k hk hlt => hf2.block k hlt ?_)) (fun k hk => (h.rowM hr hk).2.2.1)
   exact (h.rowM hr hk.symm).2.2.2
  ·obtain rfl := List.mem_singleton.1 hr
   refine Kd.R_reok (by rfl) (Kd.R_step (Kd.R_tight (by rfl) hv) (fun k hk hlt => ?_)) (fun k hk => hv.1 k hk)
   have hkm : m ≠ k := by have := hnew k hk.symm; omega
   show (w1.heap.setIfInBounds m _)[k]? = _
   simp [hkm]
 ·rw [List.pairwise_append]
  refine ⟨h.apart, by simp, ?_⟩
  intro a ha b hb k hka hkb
  obtain rfl := List.mem_singleton.1 hb
  have h1 := (h.rowM ha hka).2.1
  have h2 := hnew k hkb
  omega
/-- A key that is there: its row is set. -/
theorem set (h : HMr B X m rs clock w) {j : Nat} {r : MR} (hj : rs[j]? = some r) {w1 : World} (hg : w.grownBy w1 r.val.ownBlock) {v : Value} {xs : List ByteArray}
 (hv : Kd.string.R 9 w1 B (fun k => ¬ X k) v xs) (hat : v.ownBlock = r.val.ownBlock ∨ ∃ b, v.ownBlock = some b ∧ w.heap.size ≤ b) :
 HMr B X m (rs.set j ⟨r.key, v, xs, r.born⟩) clock (setBlock w1 m (.map ((rs.set j ⟨r.key, v, xs, r.born⟩).map MR.ent).toArray clock)) := by
 have hmem := List.mem_of_getElem? hj
 have hjl := (List.getElem?_eq_some_iff.1 hj).1
 have hlt := h.lt
 have hobj1 : w1.heap[m]? = some (.map (rs.map MR.ent).toArray clock) := (hg.block m h.lt (fun e => (h.rowM hmem e.symm).2.2.2 rfl)).trans h.obj
 have hap : ∀ (i : Nat) (a : MR), i ≠ j → rs[i]? = some a → ∀ k, a.val.ownBlock = some k → r.val.ownBlock ≠ some k := by
  intro i a hij hi k hk
  have hil := (List.getElem?_eq_some_iff.1 hi).1
  have hia := (List.getElem?_eq_some_iff.1 hi).2
  have hjr := (List.getElem?_eq_some_iff.1 hj).2
  rcases Nat.lt_or_gt_of_ne hij with hlt' | hgt
  ·have := List.pairwise_iff_getElem.1 h.apart i j hil hjl hlt'
   rw [hia, hjr] at this
   exact this k hk
  ·have := List.pairwise_iff_getElem.1 h.apart j i hjl hil hgt
   rw [hia, hjr] at this
   intro e
   exact this k e hk
 have hsame : ∀ k, k < w.heap.size → k ≠ m → r.val.ownBlock ≠ some k → (setBlock w1 m (.map ((rs.set j ⟨r.key, v, xs, r.born⟩).map MR.ent).toArray clock)).heap[k]? = w.heap[k]? := by
  intro k hk hkm hkr
  have : m ≠ k := Ne.symm hkm
  show (w1.heap.setIfInBounds m _)[k]? = _
  simp only [Array.getElem?_setIfInBounds, this, if_false]
  exact hg.block k hk (fun e => hkr e.symm)
 have hcase : ∀ (i : Nat) (a : MR), (rs.set j ⟨r.key, v, xs, r.born⟩)[i]? = some a → (i = j ∧ a = ⟨r.key, v, xs, r.born⟩) ∨ (i ≠ j ∧ rs[i]? = some a) := by
  intro i a hi
  rw [List.getElem?_set] at hi
  by_cases hij : j = i
  ·subst hij
   rw [if_pos rfl, if_pos hjl] at hi
   exact .inl ⟨rfl, (Option.some.inj hi).symm⟩
  ·rw [if_neg hij] at hi
   exact .inr ⟨Ne.symm hij, hi⟩
 have hmapb : (rs.set j ⟨r.key, v, xs, r.born⟩).map MR.born = rs.map MR.born := by
  rw [List.map_set]
  apply List.ext_getElem?
  intro i
  rw [List.getElem?_set]
  by_cases hij : j = i
  ·subst hij; rw [if_pos rfl, if_pos (by simpa using hjl), List.getElem?_map, hj]; rfl
  ·rw [if_neg hij]
 have hmapk : (rs.set j ⟨r.key, v, xs, r.born⟩).map MR.key = rs.map MR.key := by
  rw [List.map_set]
  apply List.ext_getElem?
  intro i
  rw [List.getElem?_set]
  by_cases hij : j = i
  ·subst hij; rw [if_pos rfl, if_pos (by simpa using hjl), List.getElem?_map, hj]; rfl
  ·rw [if_neg hij]
 refine ⟨at_setBlock hobj1 _, ?_, by rw [hmapb]; exact h.born, by rw [hmapk]; exact h.keys, ?_, ?_, h.geB, h.neN⟩
 ·intro a ha
  obtain ⟨i, hi⟩ := List.mem_iff_getElem?.1 ha
  rcases hcase i a hi with ⟨_, rfl⟩ | ⟨_, hi⟩
  ·exact h.below r hmem
  ·exact h.below a (List.mem_of_getElem? hi)
 ·intro a ha
  obtain ⟨i, hi⟩ := List.mem_iff_getElem?.1 ha
  rcases hcase i a hi with ⟨_, rfl⟩ | ⟨hij, hi⟩
  ·refine Kd.R_reok (by rfl) (Kd.R_step (Kd.R_tight (by rfl) hv) (fun k hk hlt => ?_)) (fun k hk => hv.1 k hk)
   have hkm : m ≠ k := by
    rcases hat with e | ⟨b, e, hb⟩
    ·rw [← hk] at e; exact Ne.symm (h.rowM hmem e.symm).2.2.2
    ·rw [← hk] at e; injection e with e; omega
   show (w1.heap.setIfInBounds m _)[k]? = _
   simp [hkm]
  ·have hm' := List.mem_of_getElem? hi
   refine Kd.R_reok (by rfl) (Kd.R_step (Kd.R_tight (by rfl) (h.rows a hm')) (fun k hk hlt => hsame k hlt (h.rowM hm' hk.symm).2.2.2 (hap i a hij hi k hk.symm))) (fun k hk => (h.rowM hm' hk).2.2.1)
 ·rw [List.pairwise_iff_getElem]
  intro i i' hi hi' hlt' k hk
  have e1 := hcase i _ (List.getElem?_eq_getElem hi)
  have e2 := hcase i' _ (List.getElem?_eq_getElem hi')
  generalize (rs.set j ⟨r.key, v, xs, r.born⟩)[i] = a at *
  generalize (rs.set j ⟨r.key, v, xs, r.born⟩)[i'] = b at *
  rcases e1 with ⟨hij, rfl⟩ | ⟨hij, e1⟩
  ·rcases e2 with ⟨hij', rfl⟩ | ⟨hij', e2⟩
   ·omega
   ·intro hb
    rcases hat with e | ⟨b', e, hb'⟩
    ·exact hap i' b hij' e2 k hb (e.symm.trans hk)
    ·have := (h.rowM (List.mem_of_getElem? e2) hb).2.1
     have hk' : v.ownBlock = some k := hk
     rw [e] at hk'; injection hk' with hk'; omega
  ·rcases e2 with ⟨hij', rfl⟩ | ⟨hij', e2⟩
   ·intro hb
    have hb' : v.ownBlock = some k := hb
    rcases hat with e | ⟨b', e, hb''⟩
    ·exact hap i a hij e1 k hk (e.symm.trans hb')
    ·have := (h.rowM (List.mem_of_getElem? e1) hk).2.1
     rw [e] at hb'; injection hb' with hb'; omega
   ·have hil := (List.getElem?_eq_some_iff.1 e1).1
    have hil' := (List.getElem?_eq_some_iff.1 e2).1
    have := List.pairwise_iff_getElem.1 h.apart i i' hil hil' hlt'
    rw [(List.getElem?_eq_some_iff.1 e1).2, (List.getElem?_eq_some_iff.1 e2).2] at this
    exact this k hk
end HMr
theorem lk_hd (rs : List MR) (k : ByteArray) : lk (rs.map MR.hd) k = (rs.find? (fun r => decide (r.key = k))).map (·.xs) := by
 induction rs with
 | nil => rfl
 | cons r rs ih =>
   rw [List.map_cons, lk_cons, ih, List.find?_cons]
   by_cases h : r.key = k
   ·rw [if_pos (show r.hd.f0 = k from h)]; simp [h, MR.hd]
   ·rw [if_neg (show ¬ r.hd.f0 = k from h)]; simp [h]
theorem lk_iff {rs : List MR} (hn : (rs.map MR.key).Nodup) (k : ByteArray) (x : List ByteArray) : lk (rs.map MR.hd) k = some x ↔ ∃ r ∈ rs, r.key = k ∧ r.xs = x := by
 constructor
 ·intro h
  obtain ⟨a, ha, h1, h2⟩ := lk_mem h
  obtain ⟨r, hr, rfl⟩ := List.mem_map.1 ha
  exact ⟨r, hr, h1, h2⟩
 ·rintro ⟨r, hr, h1, h2⟩
  induction rs with
  | nil => cases hr
  | cons a rs ih =>
    rw [List.map_cons, List.nodup_cons] at hn
    rw [List.map_cons, lk_cons]
    rcases List.mem_cons.1 hr with rfl | hr
    ·rw [if_pos (show r.hd.f0 = k from h1)]; exact congrArg some h2
    ·rw [if_neg (show ¬ a.hd.f0 = k from fun e => hn.1 (List.mem_map.2 ⟨r, hr, h1.trans e.symm⟩))]
     exact ih hn.2 hr
theorem lk_none {rs : List MR} (k : ByteArray) : lk (rs.map MR.hd) k = none ↔ ∀ r ∈ rs, r.key ≠ k := by
 constructor
 ·intro h r hr e
  have : lk (rs.map MR.hd) k ≠ none := by
   rw [lk_hd]
   intro h'
   rw [Option.map_eq_none_iff, List.find?_eq_none] at h'
   exact h' r hr (by simpa using e)
  exact this h
 ·intro h
  refine lk_not fun a ha => ?_
  obtain ⟨r, hr, rfl⟩ := List.mem_map.1 ha
  exact h r hr
/-- What the entries that have been handed out tell of a key. -/
def told (rs : List MR) (seen : Array Nat) (k : ByteArray) : Option (List ByteArray) := lk ((rs.filter (fun r => seen.contains r.born)).map MR.hd) k
theorem told_iff {rs : List MR} (hn : (rs.map MR.key).Nodup) (seen : Array Nat) (k : ByteArray) (x : List ByteArray) : told rs seen k = some x ↔ ∃ r ∈ rs, seen.contains r.born = true ∧ r.key = k ∧ r.xs = x := by
 unfold told
 rw [lk_iff (List.Nodup.sublist (List.Sublist.map _ List.filter_sublist) hn)]
 constructor
 ·rintro ⟨r, hr, h1, h2⟩
  obtain ⟨hr1, hr2⟩ := List.mem_filter.1 hr
  exact ⟨r, hr1, hr2, h1, h2⟩
 ·rintro ⟨r, hr, h0, h1, h2⟩
  exact ⟨r, List.mem_filter.2 ⟨hr, h0⟩, h1, h2⟩
theorem told_start (rs : List MR) (k : ByteArray) : told rs #[] k = none := by
 unfold told
 rw [lk_none]
 intro r hr
 obtain ⟨_, h⟩ := List.mem_filter.1 hr
 simp at h
theorem ent_of {rs : List MR} {e : MapEntry} (he : e ∈ (rs.map MR.ent).toArray.toList) : ∃ r ∈ rs, e = r.ent := by
 obtain ⟨r, hr, rfl⟩ := List.mem_map.1 (by simpa using he)
 exact ⟨r, hr, rfl⟩
theorem born_eq {rs : List MR} (hn : (rs.map MR.born).Nodup) {a b : MR} (ha : a ∈ rs) (hb : b ∈ rs) (h : a.born = b.born) : a = b := by
 obtain ⟨i, hi, rfl⟩ := List.mem_iff_getElem.1 ha
 obtain ⟨j, hj, rfl⟩ := List.mem_iff_getElem.1 hb
 have hn := List.pairwise_iff_getElem.1 hn
 rcases Nat.lt_trichotomy i j with h' | h' | h'
 ·exact absurd (by rw [List.getElem_map, List.getElem_map]; exact h) (hn i j (by simpa using hi) (by simpa using hj) h')
 ·subst h'; rfl
 ·exact absurd (by rw [List.getElem_map, List.getElem_map]; exact h.symm) (hn j i (by simpa using hj) (by simpa using hi) h')
/-- One more has been handed out. -/
theorem told_step {rs : List MR} (hk : (rs.map MR.key).Nodup) (hn : (rs.map MR.born).Nodup) {seen : Array Nat} {r : MR} (hr : r ∈ rs) (k : ByteArray) :
 told rs (seen.push r.born) k = if r.key = k then some r.xs else told rs seen k := by
 apply Option.ext
 intro x
 rw [told_iff hk]
 by_cases hrk : r.key = k
 ·rw [if_pos hrk]
  constructor
  ·rintro ⟨r', hr', h1, h2, h3⟩
   have : r' = r := by
    obtain ⟨i, hi⟩ := List.mem_iff_getElem?.1 hr
    obtain ⟨j, hj⟩ := List.mem_iff_getElem?.1 hr'
    obtain rfl := key_at hk hi hj (hrk.trans h2.symm)
    rw [hi] at hj
    exact (Option.some.inj hj).symm
   rw [← this, h3]
  ·intro h
   exact ⟨r, hr, by rw [contains_push]; simp, hrk, Option.some.inj h⟩
 ·rw [if_neg hrk, told_iff hk]
  constructor
  ·rintro ⟨r', hr', h1, h2, h3⟩
   rw [contains_push, Bool.or_eq_true] at h1
   rcases h1 with h1 | h1
   ·exact ⟨r', hr', h1, h2, h3⟩
   ·exact absurd ((born_eq hn hr' hr (by simpa using h1)) ▸ h2) hrk
  ·rintro ⟨r', hr', h1, h2, h3⟩
   exact ⟨r', hr', by rw [contains_push, h1]; rfl, h2, h3⟩
theorem told_end {rs : List MR} {seen : Array Nat} (h : (leftOf (rs.map MR.ent).toArray seen).size = 0) (k : ByteArray) : told rs seen k = lk (rs.map MR.hd) k := by
 have := all_seen _ _ h
 unfold told
 rw [List.filter_eq_self.2 (fun r hr => this r.ent (by simpa using ⟨r, hr, rfl⟩))]
theorem told_none {rs : List MR} {seen : Array Nat} {r : MR} (hk : (rs.map MR.key).Nodup) (hr : r ∈ rs) (hs : seen.contains r.born = false) : told rs seen r.key = none := by
 unfold told
 rw [lk_none]
 intro r' hr' e
 obtain ⟨hr1, hr2⟩ := List.mem_filter.1 hr'
 have : r' = r := by
  obtain ⟨i, hi⟩ := List.mem_iff_getElem?.1 hr
  obtain ⟨j, hj⟩ := List.mem_iff_getElem?.1 hr1
  obtain rfl := key_at hk hi hj e.symm
  rw [hi] at hj
  exact (Option.some.inj hj).symm
 subst this
 rw [hs] at hr2
 cases hr2
end HH
end Go.Proofs.YtclmjmfcggkpaaaGreatDoor
