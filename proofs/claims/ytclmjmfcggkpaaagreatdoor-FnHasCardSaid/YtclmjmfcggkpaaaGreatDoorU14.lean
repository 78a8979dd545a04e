import Derived.Test.YtclmjmfcggkpaaaGreatDoorU10
import Derived.Deep.RegionHeld3
import Derived.Test.YtclmjmfcggkpaaaGreatDoorU13
import Derived.Test.YtclmjmfcggkpaaaGreatDoorU4
set_option linter.unusedVariables false
set_option linter.unusedSimpArgs false
namespace Go.Proofs.YtclmjmfcggkpaaaGreatDoor
open Go.RowKit Go.Proofs.YtclmjmfcggkpaaaGreatDoorW.PrintWords Go.Proofs.YtclmjmfcggkpaaaGreatDoorW.PrintLast Go.Proofs.YtclmjmfcggkpaaaGreatDoorW.PrintMore
open PX
open Go.ChangeMaps (setBlock)
namespace HH
open H
/-! ### Header maps as functions of keys -/
structure HMq (B : Nat) (X : Nat → Prop) (m n : Nat) (T : ByteArray → Option (List ByteArray)) (w : World) : Prop where
 out : ∃ rs clock, HMr B X m rs clock w ∧ (∀ k, lk (rs.map MR.hd) k = T k) ∧ rs.length ≤ n
/-- What a key's row becomes. -/
def upT (T : ByteArray → Option (List ByteArray)) (key : ByteArray) (vs : List ByteArray) (k : ByteArray) : Option (List ByteArray) := if key = k then some vs else T k
theorem inf9 : (Tryz.prog.info? 9).map (fun i => (i.zero, i.size, i.bytes)) = some (some (.string ⟨#[]⟩), 1, 16) := by kernel_rfl
theorem lk_push {rs : List MR} {r : MR} (h : ∀ a ∈ rs, a.key ≠ r.key) (k : ByteArray) : lk ((rs ++ [r]).map MR.hd) k = if r.key = k then some r.xs else lk (rs.map MR.hd) k := by
 rw [List.map_append, lk_app]
 simp only [List.map_cons, List.map_nil, lk_cons, lk_nil]
 by_cases hk : r.key = k
 ·rw [if_pos (show r.hd.f0 = k from hk), if_pos hk, (lk_none k).2 (fun a ha => by rw [← hk]; exact h a ha)]; rfl
 ·rw [if_neg (show ¬ r.hd.f0 = k from hk), if_neg hk]; simp
theorem lk_put {rs : List MR} (hn : (rs.map MR.key).Nodup) {j : Nat} {r : MR} (hj : rs[j]? = some r) (v : Value) (xs : List ByteArray) (k : ByteArray) :
 lk ((rs.set j ⟨r.key, v, xs, r.born⟩).map MR.hd) k = if r.key = k then some xs else lk (rs.map MR.hd) k := by
 have hjl := (List.getElem?_eq_some_iff.1 hj).1
 have hmapk : (rs.set j ⟨r.key, v, xs, r.born⟩).map MR.key = rs.map MR.key := by
  rw [List.map_set]
  apply List.ext_getElem?
  intro i
  rw [List.getElem?_set]
  by_cases hij : j = i
  ·subst hij; rw [if_pos rfl, if_pos (by simpa using hjl), List.getElem?_map, hj]; rfl
  ·rw [if_neg hij]
 apply Option.ext
 intro x
 rw [lk_iff (by rw [hmapk]; exact hn)]
 by_cases hk : r.key = k
 ·rw [if_pos hk]
  constructor
  ·rintro ⟨a, ha, h1, h2⟩
   obtain ⟨i, hi⟩ := List.mem_iff_getElem?.1 ha
   rw [List.getElem?_set] at hi
   by_cases hij : j = i
   ·subst hij
    rw [if_pos rfl, if_pos hjl] at hi
    have := Option.some.inj hi
    rw [← h2, ← this]
   ·rw [if_neg hij] at hi
    exact absurd (key_at hn hj hi (hk.trans h1.symm)) hij
  ·intro h
   refine ⟨⟨r.key, v, xs, r.born⟩, ?_, hk, Option.some.inj h⟩
   exact List.mem_iff_getElem?.2 ⟨j, by rw [List.getElem?_set, if_pos rfl, if_pos hjl]⟩
 ·rw [if_neg hk, lk_iff hn]
  constructor
  ·rintro ⟨a, ha, h1, h2⟩
   obtain ⟨i, hi⟩ := List.mem_iff_getElem?.1 ha
   rw [List.getElem?_set] at hi
   by_cases hij : j = i
   ·subst hij
    rw [if_pos rfl, if_pos hjl] at hi
    have := Option.some.inj hi
    subst this
    exact absurd h1 hk
   ·rw [if_neg hij] at hi
    exact ⟨a, List.mem_of_getElem? hi, h1, h2⟩
  ·rintro ⟨a, ha, h1, h2⟩
   obtain ⟨i, hi⟩ := List.mem_iff_getElem?.1 ha
   refine ⟨a, List.mem_iff_getElem?.2 ⟨i, ?_⟩, h1, h2⟩
   rw [List.getElem?_set]
   by_cases hij : j = i
   ·subst hij
    rw [hj] at hi
    obtain rfl := Option.some.inj hi
    exact absurd h1 hk
   ·rw [if_neg hij]; exact hi
/-- The row that a look-up gives: an old one, or none. -/
structure Look (rs : List MR) (key : ByteArray) (v : Value) (xs : List ByteArray) : Prop where
 out : (∀ r ∈ rs, r.key ≠ key) ∧ v = .slice none 0 0 ∧ xs = [] ∨ ∃ (j : Nat) (r : MR), rs[j]? = some r ∧ r.key = key ∧ v = r.val ∧ xs = r.xs
theorem look_ex (rs : List MR) (key : ByteArray) : ∃ v xs, Look rs key v xs := by
 rcases look_cases rs key with ⟨h, _⟩ | ⟨j, r, h1, h2, _⟩
 ·exact ⟨_, _, ⟨.inl ⟨h, rfl, rfl⟩⟩⟩
 ·exact ⟨_, _, ⟨.inr ⟨j, r, h1, h2, rfl, rfl⟩⟩⟩
section
variable {B m clock : Nat} {X : Nat → Prop} {rs : List MR} {w : World} {key : ByteArray} {v : Value} {xs : List ByteArray}
theorem Look.run (h : Look rs key v xs) (hn : (rs.map MR.key).Nodup) {w' : World} (hm : w'.heap[m]? = some (.map (rs.map MR.ent).toArray clock)) :
 (Instr.lookup 76 (.map (some m)) (.string key) false).run Tryz.prog w' = .ok v w' := by
 refine run_lookup hm key v ?_ hn
 rcases h.out with ⟨h1, h2, _⟩ | ⟨j, r, h1, h2, h3, _⟩
 ·exact .inl ⟨h1, h2⟩
 ·exact .inr ⟨r, List.mem_of_getElem? h1, h2, h3⟩
theorem Look.row (h : Look rs key v xs) (H : HMr B X m rs clock w) : Kd.string.R 9 w B (fun k => ¬ X k) v xs := by
 rcases h.out with ⟨h1, rfl, rfl⟩ | ⟨j, r, h1, h2, rfl, rfl⟩
 ·exact Kd.R_nil _ _ _ _ _
 ·exact H.rows r (List.mem_of_getElem? h1)
theorem Look.lk (h : Look rs key v xs) (hn : (rs.map MR.key).Nodup) : xs = (lk (rs.map MR.hd) key).getD [] := by
 rcases h.out with ⟨h1, rfl, rfl⟩ | ⟨j, r, h1, h2, rfl, rfl⟩
 ·rw [(lk_none key).2 h1]; rfl
 ·rw [(lk_iff hn key r.xs).2 ⟨r, List.mem_of_getElem? h1, h2, rfl⟩]; rfl
/-- What a store at the key gives, the row having been written (or a new one made) in between. -/
theorem Look.put (h : Look rs key v xs) (H : HMr B X m rs clock w) {n : Nat} (hl : rs.length ≤ n) {w1 : World} (hg : w.grownBy w1 v.ownBlock) {v1 : Value} {ys : List ByteArray}
 (hv : Kd.string.R 9 w1 B (fun k => ¬ X k) v1 ys) (hat : v1.ownBlock = v.ownBlock ∨ ∃ b, v1.ownBlock = some b ∧ w.heap.size ≤ b) :
 ∃ W2, (Instr.mapUpdate 76 (.map (some m)) (.string key) v1).run Tryz.prog w1 = .ok () W2 ∧ HMq B X m (n + 1) (upT (HH.lk (rs.map MR.hd)) key ys) W2 ∧ Fr (fun k => B ≤ k ∧ ¬ X k) w W2 ∧ ∀ k, k ≠ m → W2.heap[k]? = w1.heap[k]? := by
 rcases h.out with ⟨h1, rfl, rfl⟩ | ⟨j, r, h1, h2, rfl, rfl⟩
 ·have hobj1 : w1.heap[m]? = some (.map (rs.map MR.ent).toArray clock) := (hg.block m H.lt (by simp [Value.ownBlock])).trans H.obj
  refine ⟨_, run_update_new hobj1 key v1 ys h1, ⟨_, _, H.push hg (fun k hk => by simp [Value.ownBlock] at hk) h1 hv (fun k hk => ?_), fun k => ?_, by simp; exact hl⟩, ?_, fun k hk => by show (w1.heap.setIfInBounds m _)[k]? = _; simp [Ne.symm hk]⟩
  ·rcases hat with e | ⟨b, e, hb⟩
   ·rw [e] at hk; simp [Value.ownBlock] at hk
   ·rw [e] at hk; injection hk with hk; omega
  ·rw [lk_push (fun a ha => h1 a ha)]; rfl
  ·exact ((Fr.refl _ w).grown hg (fun k hk => by simp [Value.ownBlock] at hk)).trans (fr_setBlock (S := fun k => k = m) w1 m _ (.inl rfl)) (fun k _ e => by subst e; exact ⟨H.geB, H.neN⟩)
 ·subst h2
  have hmem := List.mem_of_getElem? h1
  have hobj1 : w1.heap[m]? = some (.map (rs.map MR.ent).toArray clock) := (hg.block m H.lt (fun e => (H.rowM hmem e.symm).2.2.2 rfl)).trans H.obj
  refine ⟨_, run_update_old hobj1 r.key v1 ys h1 rfl H.keys, ⟨_, _, H.set h1 hg hv hat, fun k => ?_, by simp; omega⟩, ?_, fun k hk => by show (w1.heap.setIfInBounds m _)[k]? = _; simp [Ne.symm hk]⟩
  ·rw [lk_put H.keys h1]; rfl
  ·refine ((Fr.refl _ w).grown hg (fun k hk => .inl ?_)).trans (fr_setBlock (S := fun k => k = m) w1 m _ (.inl rfl)) (fun k _ e => by subst e; exact ⟨H.geB, H.neN⟩)
   have := H.rowM hmem hk
   exact ⟨this.1, this.2.2.1⟩
theorem Look.len (h : Look rs key v xs) {n : Nat} (hx : ∀ r ∈ rs, r.xs.length ≤ n) : xs.length ≤ n := by
 rcases h.out with ⟨h1, rfl, rfl⟩ | ⟨j, r, h1, h2, rfl, rfl⟩
 ·simp
 ·exact hx r (List.mem_of_getElem? h1)
theorem Look.lt (h : Look rs key v xs) (H : HMr B X m rs clock w) (k : Nat) (hk : v.ownBlock = some k) : k < w.heap.size := by
 rcases h.out with ⟨h1, rfl, rfl⟩ | ⟨j, r, h1, h2, rfl, rfl⟩
 ·simp [Value.ownBlock] at hk
 ·exact (H.rowM (List.mem_of_getElem? h1) hk).2.1
end
theorem Look.cut {B m clock : Nat} {X : Nat → Prop} {rs : List MR} {w : World} {key : ByteArray} {v : Value} {xs : List ByteArray} (h : Look rs key v xs) (H : HMr B X m rs clock w) :
 ∃ v0 : Value, v0.ownBlock = v.ownBlock ∧ (∀ w' : World, (Instr.slice 67 v none (some (.int .i64 0)) none).run Tryz.prog w' = .ok v0 w') ∧ ∀ w' : World, HMr B X m rs clock w' → Kd.string.R 9 w' B (fun k => ¬ X k) v0 [] := by
 have hel : Tryz.prog.elem 67 = 9 := by simp [Program.elem, Tryz.underlying67]
 have hu : Tryz.prog.underlying 67 = some (.slice (Tryz.prog.elem 67)) := by rw [hel]; exact Tryz.underlying67
 obtain ⟨i, hi, hz⟩ := Option.map_eq_some_iff.1 inf9
 simp only [Prod.mk.injEq] at hz
 have hR := h.row H
 obtain ⟨inner, ho⟩ := Kd.R_own hR
 rcases ho.2 with ⟨rfl, h0⟩ | ⟨g, cap, cur, rfl, h1, h2, h3, h4, h5, h6⟩
 ·refine ⟨.slice none 0 0, rfl, fun w' => ?_, fun w' _ => Kd.R_nil _ _ _ _ _⟩
  rw [run_slice_h w' 67 none 0 0 hu .i64 0 (by omega) (by omega), hel]
  simp [sizeOf, typeInfo, hi, hz, sliced, Result.andThen]
 ·refine ⟨.slice (some ⟨g, 0, none⟩) 0 cap, rfl, fun w' => ?_, fun w' H' => ?_⟩
  ·rw [run_slice_h w' 67 _ _ cap hu .i64 0 (by omega) (by omega), hel]
   simp [sizeOf, typeInfo, hi, hz, sliced, Result.andThen]
   try simp [Addr.add]
  ·have hR' := h.row H'
   obtain ⟨inner', ho'⟩ := Kd.R_own hR'
   exact Kd.R_of_own (enc := Value.string) (own_cut0 ho') hR'.1
theorem cell_of_alloc {w : World} {p : Addr} {v : Value} {o : Obj} (h : w.cell? p = some v) : (w.drew.alloc o).cell? p = some v :=
 (World.cell?_alloc_lt w.drew o p (World.block_lt_of_cell? w p h)).trans h
end HH
end Go.Proofs.YtclmjmfcggkpaaaGreatDoor
set_option linter.unusedVariables false
set_option linter.unusedSimpArgs false
namespace Go.Proofs.YtclmjmfcggkpaaaGreatDoor
open Go.RowKit Go.Proofs.YtclmjmfcggkpaaaGreatDoorW.PrintWords Go.Proofs.YtclmjmfcggkpaaaGreatDoorW.PrintLast Go.Proofs.YtclmjmfcggkpaaaGreatDoorW.PrintMore
open PX
open Go.ChangeMaps (setBlock)
namespace HH
open H
/-! ### Maps of queries (type 119) -/
theorem runQ_lookup {rs : List MR} {clock m : Nat} {w : World} (hm : w.heap[m]? = some (.map (rs.map MR.ent).toArray clock)) (key : ByteArray) (v : Value)
 (hv : (∀ r ∈ rs, r.key ≠ key) ∧ v = .slice none 0 0 ∨ ∃ r ∈ rs, r.key = key ∧ v = r.val) (hn : (rs.map MR.key).Nodup) :
 (Instr.lookup 119 (.map (some m)) (.string key) false).run Tryz.prog w = .ok v w := by
 have hu := Tryz.underlying119
 have hu9 := Tryz.underlying9
 have hi : (Tryz.prog.info? 67).map (·.zero) = some (some (.slice none 0 0)) := by kernel_rfl
 obtain ⟨i, hi, hz⟩ := Option.map_eq_some_iff.1 hi
 have hck := fun b => MapKept.run_checkKey (P := Tryz.prog) (w := w) (k := .string key) hu9 (by constructor) b 9999
 rcases look_cases rs key with ⟨h1, h2⟩ | ⟨j, r, h1, h2, h3⟩
 ·have hf := MapKept.run_findKey (P := Tryz.prog) (w := w) hu9 h2
  obtain rfl : v = .slice none 0 0 := by
   rcases hv with ⟨_, hv⟩ | ⟨r, hr, hk, _⟩
   ·exact hv
   ·exact absurd hk (h1 r hr)
  simp [Instr.lookup, run_underlying hu, Sem.run_bind, Result.andThen, MapKept.run_getObj_map hm, hck, hf, zeroValue, typeInfo, hi, hz]
 ·have hf := MapKept.run_findKey (P := Tryz.prog) (w := w) hu9 h3
  obtain rfl : v = r.val := by
   rcases hv with ⟨hno, _⟩ | ⟨r', hr', hk, rfl⟩
   ·exact absurd h2 (hno r (List.mem_of_getElem? h1))
   ·obtain ⟨j', hj'⟩ := List.mem_iff_getElem?.1 hr'
    obtain rfl := key_at hn h1 hj' (h2.trans hk.symm)
    rw [h1] at hj'
    rw [Option.some.inj hj']
  simp [Instr.lookup, run_underlying hu, Sem.run_bind, Result.andThen, MapKept.run_getObj_map hm, hck, hf]
theorem runQ_update_new {rs : List MR} {clock m : Nat} {w : World} (hm : w.heap[m]? = some (.map (rs.map MR.ent).toArray clock)) (key : ByteArray) (v : Value) (xs : List ByteArray) (hk : ∀ r ∈ rs, r.key ≠ key) :
 (Instr.mapUpdate 119 (.map (some m)) (.string key) v).run Tryz.prog w = .ok () (setBlock w m (.map ((rs ++ [(⟨key, v, xs, clock⟩ : MR)]).map MR.ent).toArray (clock + 1))) := by
 have hu := Tryz.underlying119
 have hu9 := Tryz.underlying9
 have hck := fun b => MapKept.run_checkKey (P := Tryz.prog) (w := w) (k := .string key) hu9 (by constructor) b 9999
 rcases look_cases rs key with ⟨h1, h2⟩ | ⟨j, r, h1, h2, h3⟩
 ·have hf := MapKept.run_findKey (P := Tryz.prog) (w := w) hu9 h2
  simp [Instr.mapUpdate, run_underlying hu, Sem.run_bind, Result.andThen, MapKept.run_getObj_map hm, hck, hf, MapKept.run_setObj_map _ hm, setBlock, MR.ent]
 ·exact absurd h2 (hk r (List.mem_of_getElem? h1))
theorem runQ_update_old {rs : List MR} {clock m : Nat} {w : World} (hm : w.heap[m]? = some (.map (rs.map MR.ent).toArray clock)) (key : ByteArray) (v : Value) (xs : List ByteArray) {j : Nat} {r : MR} (hj : rs[j]? = some r) (hk : r.key = key) (hn : (rs.map MR.key).Nodup) :
 (Instr.mapUpdate 119 (.map (some m)) (.string key) v).run Tryz.prog w = .ok () (setBlock w m (.map ((rs.set j ⟨key, v, xs, r.born⟩).map MR.ent).toArray clock)) := by
 have hu := Tryz.underlying119
 have hu9 := Tryz.underlying9
 have hck := fun b => MapKept.run_checkKey (P := Tryz.prog) (w := w) (k := .string key) hu9 (by constructor) b 9999
 rcases look_cases rs key with ⟨h1, h2⟩ | ⟨j', r', h1, h2, h3⟩
 ·exact absurd hk (h1 r (List.mem_of_getElem? hj))
 ·obtain rfl : j' = j := key_at hn h1 hj (h2.trans hk.symm)
  obtain rfl : r' = r := by rw [h1] at hj; exact Option.some.inj hj
  have hf := MapKept.run_findKey (P := Tryz.prog) (w := w) hu9 h3
  have hke := MapKept.run_keyThatStays (P := Tryz.prog) (w := w) (d := .string) (k := .string key) trivial
  have hget : ((rs.map MR.ent).toArray[j']?.map (·.key)).getD (.string key) = .string key := by
   simp [h1, MR.ent, hk]
  have hmod : (rs.map MR.ent).toArray.modify j' (fun e => { e with key := .string key, val := v }) = ((rs.set j' ⟨key, v, xs, r'.born⟩).map MR.ent).toArray := by
   apply Array.ext_getElem?
   intro i
   rw [Array.getElem?_modify, List.getElem?_toArray, List.getElem?_toArray, List.getElem?_map, List.getElem?_map, List.getElem?_set]
   by_cases hij : j' = i
   ·subst hij
    have hlt := (List.getElem?_eq_some_iff.1 h1).1
    rw [if_pos rfl, if_pos rfl, h1, if_pos hlt]
    rfl
   ·rw [if_neg hij, if_neg hij]
  simp only [Instr.mapUpdate, run_underlying hu, Sem.run_bind, Result.andThen, MapKept.run_getObj_map hm, hck, hf, hget, hke, MapKept.run_setObj_map _ hm, hmod]
  rfl
section
variable {B m clock : Nat} {X : Nat → Prop} {rs : List MR} {w : World} {key : ByteArray} {v : Value} {xs : List ByteArray}
theorem Look.runQ (h : Look rs key v xs) (hn : (rs.map MR.key).Nodup) {w' : World} (hm : w'.heap[m]? = some (.map (rs.map MR.ent).toArray clock)) :
 (Instr.lookup 119 (.map (some m)) (.string key) false).run Tryz.prog w' = .ok v w' := by
 refine runQ_lookup hm key v ?_ hn
 rcases h.out with ⟨h1, h2, _⟩ | ⟨j, r, h1, h2, h3, _⟩
 ·exact .inl ⟨h1, h2⟩
 ·exact .inr ⟨r, List.mem_of_getElem? h1, h2, h3⟩
theorem Look.putQ (h : Look rs key v xs) (H : HMr B X m rs clock w) {n : Nat} (hl : rs.length ≤ n) {w1 : World} (hg : w.grownBy w1 v.ownBlock) {v1 : Value} {ys : List ByteArray}
 (hv : Kd.string.R 9 w1 B (fun k => ¬ X k) v1 ys) (hat : v1.ownBlock = v.ownBlock ∨ ∃ b, v1.ownBlock = some b ∧ w.heap.size ≤ b) :
 ∃ W2, (Instr.mapUpdate 119 (.map (some m)) (.string key) v1).run Tryz.prog w1 = .ok () W2 ∧ HMq B X m (n + 1) (upT (HH.lk (rs.map MR.hd)) key ys) W2 ∧ Fr (fun k => B ≤ k ∧ ¬ X k) w W2 ∧ ∀ k, k ≠ m → W2.heap[k]? = w1.heap[k]? := by
 rcases h.out with ⟨h1, rfl, rfl⟩ | ⟨j, r, h1, h2, rfl, rfl⟩
 ·have hobj1 : w1.heap[m]? = some (.map (rs.map MR.ent).toArray clock) := (hg.block m H.lt (by simp [Value.ownBlock])).trans H.obj
  refine ⟨_, runQ_update_new hobj1 key v1 ys h1, ⟨_, _, H.push hg (fun k hk => by simp [Value.ownBlock] at hk) h1 hv (fun k hk => ?_), fun k => ?_, by simp; exact hl⟩, ?_, fun k hk => by show (w1.heap.setIfInBounds m _)[k]? = _; simp [Ne.symm hk]⟩
  ·rcases hat with e | ⟨b, e, hb⟩
   ·rw [e] at hk; simp [Value.ownBlock] at hk
   ·rw [e] at hk; injection hk with hk; omega
  ·rw [lk_push (fun a ha => h1 a ha)]; rfl
  ·exact ((Fr.refl _ w).grown hg (fun k hk => by simp [Value.ownBlock] at hk)).trans (fr_setBlock (S := fun k => k = m) w1 m _ (.inl rfl)) (fun k _ e => by subst e; exact ⟨H.geB, H.neN⟩)
 ·subst h2
  have hmem := List.mem_of_getElem? h1
  have hobj1 : w1.heap[m]? = some (.map (rs.map MR.ent).toArray clock) := (hg.block m H.lt (fun e => (H.rowM hmem e.symm).2.2.2 rfl)).trans H.obj
  refine ⟨_, runQ_update_old hobj1 r.key v1 ys h1 rfl H.keys, ⟨_, _, H.set h1 hg hv hat, fun k => ?_, by simp; omega⟩, ?_, fun k hk => by show (w1.heap.setIfInBounds m _)[k]? = _; simp [Ne.symm hk]⟩
  ·rw [lk_put H.keys h1]; rfl
  ·refine ((Fr.refl _ w).grown hg (fun k hk => .inl ?_)).trans (fr_setBlock (S := fun k => k = m) w1 m _ (.inl rfl)) (fun k _ e => by subst e; exact ⟨H.geB, H.neN⟩)
   have := H.rowM hmem hk
   exact ⟨this.1, this.2.2.1⟩
end
end HH
end Go.Proofs.YtclmjmfcggkpaaaGreatDoor
set_option linter.unusedVariables false
namespace Go.Proofs.YtclmjmfcggkpaaaGreatDoor
open Go.RowKit
namespace H
/-- An operation that yields its value in every world of S: taken. -/
theorem tk {P : Program} {md : Region.Mode} {ops : Array Oper} {Q : Exit → Act → World → Prop} {S : World → Prop} (i : Nat) {oi : Oper} {v : Value} {fuel : Nat} {listed : Array Bool} {a a' : Act} {w : World}
    (h : wpAnyH P md ops Q S fuel (listed.setIfInBounds i true) a' w) (hi : ops[i]? = some oi := by rfl)
    (hs : Region.noSelect ops = true := by kernel_rfl) (hf : Region.free md ops listed i = true := by kernel_rfl) (hr : (Region.ready md ops listed).contains i = true := by kernel_rfl)
    (hg : Region.wanted oi (yielded ops a.tmps) = true := by rfl)
    (hy : ∀ w, S w → (execOp a.eval oi).run P w = .ok (.value v) w := by intro w hSw; (try dsimp only at hSw); first | (go_simp; done) | (go_simp; with_reducible rfl))
    (ha : a.put oi.dst v = a' := by (try simp only [Act.put, List.getElem_toArray, List.getElem_cons_zero, List.getElem_cons_succ, List.setIfInBounds_toArray, List.set_cons_zero, List.set_cons_succ]); with_reducible rfl) (hS : S w := by assumption)
    (hQ : ∀ c a w, Q (.panic c) (a.put oi.dst v) w → Q (.panic c) a w := by exact fun _ _ _ h => h) : wpAnyH P md ops Q S (fuel + 1) listed a w := by
  subst ha
  exact wpAnyH_take hi hs hf hr hQ (.inl ⟨hg, hy⟩) hS h
/-- One that is not wanted. -/
theorem tku {P : Program} {md : Region.Mode} {ops : Array Oper} {Q : Exit → Act → World → Prop} {S : World → Prop} (i : Nat) {oi : Oper} {fuel : Nat} {listed : Array Bool} {a a' : Act} {w : World}
    (h : wpAnyH P md ops Q S fuel (listed.setIfInBounds i true) a' w) (hi : ops[i]? = some oi := by rfl)
    (hs : Region.noSelect ops = true := by kernel_rfl) (hf : Region.free md ops listed i = true := by kernel_rfl) (hr : (Region.ready md ops listed).contains i = true := by kernel_rfl)
    (hg : Region.wanted oi (yielded ops a.tmps) = false := by rfl)
    (ha : a.put oi.dst undef = a' := by (try simp only [Act.put, List.getElem_toArray, List.getElem_cons_zero, List.getElem_cons_succ, List.setIfInBounds_toArray, List.set_cons_zero, List.set_cons_succ]); with_reducible rfl) (hS : S w := by assumption)
    (hQ : ∀ c a w, Q (.panic c) (a.put oi.dst undef) w → Q (.panic c) a w := by exact fun _ _ _ h => h) : wpAnyH P md ops Q S (fuel + 1) listed a w := by
  subst ha
  exact wpAnyH_take hi hs hf hr hQ (.inr ⟨hg, rfl⟩) hS h
/-- Only one operation may come up. -/
theorem rd1 {P : Program} {md : Region.Mode} {ops : Array Oper} {Q : Exit → Act → World → Prop} {S : World → Prop} (i : Nat) {o : Oper} {fuel : Nat} {listed : Array Bool} {a : Act} {w : World}
    (h : ∀ K' : Act → World → Prop, Shut (∀ a w, S w → (S w → wpAnyH P md ops Q S fuel (listed.setIfInBounds i true) a w) → K' a w) → if Region.wanted o (yielded ops a.tmps) = true then Oper.wp P o a w K' Q else K' (a.put o.dst undef) w)
    (ho : ops[i]? = some o := by rfl) (hr : Region.ready md ops listed = [i] := by kernel_rfl) : wpAnyH P md ops Q S (fuel + 1) listed a w :=
  wpAnyH_ready hr (by simp) (AllReadyH.cons ho h AllReadyH.nil)
end H
end Go.Proofs.YtclmjmfcggkpaaaGreatDoor
