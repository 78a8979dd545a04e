import Derived.Test.YtclmjmfcggkpaaaGreatDoorU12
import Derived.WalkSpells
import Derived.Test.YtclmjmfcggkpaaaGreatDoorU7
import Derived.Laws.CopyOwn
import Derived.StillTailTactics
namespace Go.Proofs.YtclmjmfcggkpaaaGreatDoor
open Go.RowKit Go.Proofs.YtclmjmfcggkpaaaGreatDoorW.PrintWords Go.Proofs.YtclmjmfcggkpaaaGreatDoorW.PrintLast Go.Proofs.YtclmjmfcggkpaaaGreatDoorW.PrintMore
namespace H
/-- A range over an empty map ends at once. -/
theorem next_empty (w : World) (ty : TypeId) (bm since c0 clock : Nat) (hb : w.heap[bm]? = some (.map #[] clock)) (hsc : since ≤ c0) :
 (Instr.next (.pointer (some ⟨w.heap.size, 0, none⟩)) false ty).run Tryz.prog (w.alloc (.mapIter (some bm) since #[] c0)) = .ok (.tuple #[.bool false]) (w.alloc (.mapIter (some bm) since #[] c0)) := by
 rcases run_next_map (P := Tryz.prog) w ty bm since c0 #[] #[] clock hb (by simp) hsc with h | ⟨e, he, _⟩
 ·exact h.2
 ·simp [leftOf] at he
set_option maxHeartbeats 400000 in
set_option maxRecDepth 100000 in
theorem pq_call (w : World) :
 Calls Tryz.prog 98 #[.string ⟨#[]⟩] w fun e w' => e = .returned (.tuple #[.map (some w.heap.size), .nilIface]) ∧ w'.heap[w.heap.size]? = some (.map #[] 0) ∧ Below w.heap.size w w' := by
 have hmm := @run_makeMap Tryz.prog
 go_enter Tryz.func98, Tryz.ntmps98
 go_wp2
 refine wp_loop_rounds 1 ?_
 rw [rounds_succ]
 go_wp2
 refine wp_loop_rounds 1 ?_
 rw [rounds_succ]
 go_wp2
 go_ret2
 exact ⟨rfl, heap_new w _, below_alloc (Below.refl _ _) _⟩
set_option maxHeartbeats 400000 in
set_option maxRecDepth 100000 in
theorem clone_nil (m : Nat) (w : World) (hm : w.heap[m]? = some (.map #[] 0)) :
 Calls Tryz.prog 99 #[.map (some m)] w fun e w' => e = .returned (.map (some w.heap.size)) ∧ w'.heap[w.heap.size]? = some (.map #[] 0) ∧ Below w.heap.size w w' := by
 have hmm := @run_makeMap Tryz.prog
 have hq := run_eql_map_nil (P := Tryz.prog) w 76 _ _ (some m) Tryz.underlying76
 have hr := run_range_map (P := Tryz.prog) (w.alloc (.map #[] 0)) 76 _ _ m #[] 0 Tryz.underlying76 (heap_old hm _)
 have hn := fun ty => next_empty (w.alloc (.map #[] 0)) ty m 0 0 0 (heap_old hm _) (Nat.le_refl _)
 simp only [World.size_alloc] at hr hn
 go_enter Tryz.func99, Tryz.ntmps99
 go_wp2
 refine wp_loop_rounds 1 ?_
 rw [rounds_succ]
 go_wp2
 go_ret
 exact ⟨rfl, heap_old (heap_new w _) _, below_alloc (below_alloc (Below.refl _ _) _) _⟩
end H
end Go.Proofs.YtclmjmfcggkpaaaGreatDoor
namespace Go.Proofs.YtclmjmfcggkpaaaGreatDoor
open Go.RowKit Go.Proofs.YtclmjmfcggkpaaaGreatDoorW.PrintWords Go.Proofs.YtclmjmfcggkpaaaGreatDoorW.PrintLast Go.Proofs.YtclmjmfcggkpaaaGreatDoorW.PrintMore Go.Lib
set_option linter.unusedVariables false
set_option linter.unusedSimpArgs false
namespace H
/-! ### Storing into, and copying into, a row whose block may bear a mark -/
def spl {α : Type} (L : List α) (k : Nat) (vs : List α) : List α := L.take k ++ vs ++ L.drop (k + vs.length)
theorem spl_length {α : Type} (L : List α) (k : Nat) (vs : List α) (h : k + vs.length ≤ L.length) : (spl L k vs).length = L.length := by
 simp [spl]; omega
theorem storeC {P : Program} (g o : Nat) (T : TypeId) (fr : Nat × Nat) : ∀ (vs : List Value) (i : Nat) (w : World) (cur : List Value), w.heap[g]? = some (.cells cur.toArray T fr) → o + i + vs.length ≤ cur.length →
 (∀ j, o + i ≤ j → j < o + i + vs.length → (decide (fr.1 ≤ j) && decide (j < fr.2)) = false) → (∀ v ∈ vs, v.oneCell' = true) →
 ∃ w', (storeCells ⟨g, o, none⟩ vs i).run P w = .ok () w' ∧ w'.heap[g]? = some (.cells (spl cur (o + i) vs).toArray T fr) ∧ Fr (· = g) w w' ∧ w'.heap.size = w.heap.size := by
 intro vs
 induction vs with
 | nil =>
   intro i w cur hg _ _ _
   exact ⟨w, rfl, by simpa [spl] using hg, Fr.refl _ _, rfl⟩
 | cons v rest ih =>
   intro i w cur hg hl hfr h1
   simp only [List.length_cons] at hl hfr
   have hadd : (⟨g, o, none⟩ : Addr).add i = ⟨g, o + i, none⟩ := by unfold Addr.add; split <;> simp_all
   have hcell : w.cell? ⟨g, o + i, none⟩ = some (cur[o + i]'(by omega)) := by simp [World.cell?, hg, show o + i < cur.length by omega]
   have hfro : w.frozen? ⟨g, o + i, none⟩ = false := by simp only [World.frozen?, hg]; exact hfr (o + i) (Nat.le_refl _) (by omega)
   have hst : (store ((⟨g, o, none⟩ : Addr).add i) v).run P w = .ok () (w.setCell ⟨g, o + i, none⟩ v) := by
    rw [hadd, run_store P w _ v _ (h1 v (by simp)), hcell]
    simp [hfro]
   have hg1 : (w.setCell ⟨g, o + i, none⟩ v).heap[g]? = some (.cells (cur.set (o + i) v).toArray T fr) := by
    have := heap_set hg (o + i) v
    simpa using this
   obtain ⟨w', hr, hg', hf, hz⟩ := ih (i + 1) (w.setCell ⟨g, o + i, none⟩ v) (cur.set (o + i) v) hg1 (by simp; omega) (fun j h2 h3 => hfr j (by omega) (by omega)) (fun x hx => h1 x (by simp [hx]))
   refine ⟨w', ?_, ?_, ?_, ?_⟩
   ·simp only [storeCells, Sem.run_bind, hst, Result.andThen_ok, hr]
   ·rw [hg']
    have e := list_seg_step cur (o + i) v rest (by omega)
    unfold spl
    rw [show o + (i + 1) = o + i + 1 from by omega, e]
    rfl
   ·exact (Fr.setCell (S := (· = g)) (Fr.refl _ w) (p := ⟨g, o + i, none⟩) (.inl rfl) v).trans hf (fun _ _ h => h)
   ·rw [hz]; simp [World.setCell]
theorem run_copyR {P : Program} {w : World} (dT sT ty elem : TypeId) (hu : P.underlying dT = some (.slice elem)) (hsz : (P.info? elem).map (·.size) = some 1)
 (dp sp : Option Addr) (dLen dCap sLen sCap g off : Nat) (cur : List Value) (T : TypeId) (fr : Nat × Nat) (hg : w.heap[g]? = some (.cells cur.toArray T fr)) (cs : List Value) (hn : cs.length = Nat.min sLen dLen)
 (hpos : 0 < cs.length → dp = some ⟨g, off, none⟩ ∧ ∃ ad, sp = some ad ∧ ∀ j v, cs[j]? = some v → w.cell? (ad.add j) = some v)
 (hfit : 0 < cs.length → off + cs.length ≤ cur.length) (hfr : ∀ j, off ≤ j → j < off + cs.length → (decide (fr.1 ≤ j) && decide (j < fr.2)) = false) (h1 : ∀ v ∈ cs, v.oneCell' = true) :
 ∃ w', (Builtin.copy_ #[dT, sT] ty #[.slice dp dLen dCap, .slice sp sLen sCap]).run P w = .ok (goInt cs.length) w' ∧ w'.heap[g]? = some (.cells (if cs = [] then cur else spl cur off cs).toArray T fr) ∧ Fr (· = g) w w' ∧ w'.heap.size = w.heap.size := by
 cases hq : P.info? elem with
 | none => simp [hq] at hsz
 | some i =>
   have hi : i.size = 1 := by simpa [hq] using hsz
   by_cases h0 : cs = []
   ·subst h0
    refine ⟨w, ?_, by simpa using hg, Fr.refl _ _, rfl⟩
    simp only [List.length_nil] at hn
    cases sp with
    | none => cases dp <;> simp [Builtin.copy_, run_underlying hu, Builtin.lenOf, Builtin.firstCells, sizeOf, typeInfo, hq, ← hn, storeCells]
    | some ad =>
      have hl := run_loadCells_list (P := P) w ad [] (by simp)
      simp only [List.length_nil] at hl
      cases dp <;> simp [Builtin.copy_, run_underlying hu, Builtin.lenOf, Builtin.firstCells, sizeOf, typeInfo, hq, ← hn, storeCells, hl]
   ·have hp : 0 < cs.length := List.length_pos_iff.2 h0
    obtain ⟨rfl, ad, rfl, hsrc⟩ := hpos hp
    have hl := run_loadCells_list (P := P) w ad cs hsrc
    obtain ⟨w', hst, hg', hf, hz⟩ := storeC (P := P) g off T fr cs 0 w cur hg (by simpa using hfit hp) (by simpa using hfr) h1
    refine ⟨w', ?_, by rw [if_neg h0]; simpa using hg', hf, hz⟩
    simp [Builtin.copy_, run_underlying hu, Builtin.lenOf, Builtin.firstCells, sizeOf, typeInfo, hq, hi, ← hn, hl, hst]
theorem copyR {P : Program} {w : World} {ops : Array Oper} {rest : List Oper} {o : Oper} {a : Act} {Q : Exit → Act → World → Prop} (hgd : o.guard = none) (d s : Operand) (dT sT : TypeId)
 (ho : o.op = .call { callee := .builtin .copy, args := #[d, s], argTypes := #[dT, sT] }) (elem : TypeId) (hu : P.underlying dT = some (.slice elem)) (hsz : (P.info? elem).map (·.size) = some 1)
 (dp sp : Option Addr) (dLen dCap sLen sCap : Nat) (hd : a.eval d = .slice dp dLen dCap) (hs : a.eval s = .slice sp sLen sCap)
 (g off : Nat) (cur : List Value) (T : TypeId) (fr : Nat × Nat) (hg : w.heap[g]? = some (.cells cur.toArray T fr)) (cs : List Value) (hn : cs.length = Nat.min sLen dLen)
 (hpos : 0 < cs.length → dp = some ⟨g, off, none⟩ ∧ ∃ ad, sp = some ad ∧ ∀ j v, cs[j]? = some v → w.cell? (ad.add j) = some v)
 (hfit : 0 < cs.length → off + cs.length ≤ cur.length) (hfr : ∀ j, off ≤ j → j < off + cs.length → (decide (fr.1 ≤ j) && decide (j < fr.2)) = false) (h1 : ∀ v ∈ cs, v.oneCell' = true)
 (h : ∀ w', w'.heap[g]? = some (.cells (if cs = [] then cur else spl cur off cs).toArray T fr) → Fr (· = g) w w' → w'.heap.size = w.heap.size → wpList P ops Q rest (a.put o.dst (goInt cs.length)) w') :
 wpList P ops Q (o :: rest) a w := by
 obtain ⟨w', hrun, h2, h3, h4⟩ := run_copyR (P := P) (w := w) dT sT o.type elem hu hsz dp sp dLen dCap sLen sCap g off cur T fr hg cs hn hpos hfit hfr h1
 refine wpList_plain hgd fun K hK => ?_
 unfold Oper.wp
 simp [execOp, ho, resolve, invoke, builtin, hd, hs, hrun, Result.andThen]
 exact hK _ _ (h w' h2 h3 h4)

/-! ### A block of bytes: of the call's own, or made of a string -/
/-- The block g holds the bytes zs, and may be written. -/
def BAt (w : World) (g : Nat) (zs : List Int) : Prop :=
 ∃ fr : Nat × Nat, w.heap[g]? = some (.cells (nums .u8 zs).toArray 5 fr) ∧ (fr = (0, 0) ∨ fr = (zs.length, zs.length + 1))
theorem BAt.fr {S : Nat → Prop} {w w' : World} {g : Nat} {zs : List Int} (h : BAt w g zs) (hf : Fr S w w') (hn : ¬ S g) : BAt w' g zs := by
 obtain ⟨fr, h1, h2⟩ := h
 exact ⟨fr, hf.heap h1 hn, h2⟩
theorem BAt.below {w w' : World} {g : Nat} {zs : List Int} (h : BAt w g zs) (hb : Below w.heap.size w w') : BAt w' g zs :=
 h.fr (Fr.of_below (S := fun _ => False) hb) (fun h => h)
theorem BAt.lt {w : World} {g : Nat} {zs : List Int} (h : BAt w g zs) : g < w.heap.size := by obtain ⟨fr, h1, _⟩ := h; exact lt_of h1
theorem plain_add (g o j : Nat) : (⟨g, o, none⟩ : Addr).add j = ⟨g, o + j, none⟩ := by unfold Addr.add; split <;> simp_all
theorem nums_get (k : IntKind) (xs : List Int) (i : Nat) (h : i < xs.length) : (nums k xs)[i]? = some (.int k (xs.getD i 0)) := by
 simp [nums, h, List.getD_eq_getElem?_getD]
theorem BAt.cell {w : World} {g : Nat} {zs : List Int} (h : BAt w g zs) (i : Nat) (hi : i < zs.length) : w.cell? ⟨g, i, none⟩ = some (.int .u8 (zs.getD i 0)) := by
 obtain ⟨fr, h1, _⟩ := h
 rw [cell_at h1, List.getElem?_toArray, nums_get _ _ _ hi]
theorem BAt.str {P : Program} {w : World} {g n c : Nat} {zs : List Int} (h : BAt w g zs) (hn : n ≤ zs.length) {src dst : TypeId} (hs : P.underlying src = some (.slice 5)) (he : P.underlying 5 = some (.int .u8)) (hd : P.underlying dst = some .string) :
 (convert src dst (.slice (some ⟨g, 0, none⟩) n c)).run P w = .ok (.string (strOfNums (zs.take n))) w :=
 run_convert_bytes_arg w src 5 hs he g 0 n c (zs.take n) (by simp; omega) (fun i hi => by
  rw [Nat.zero_add, h.cell i (by omega)]
  congr 2
  rw [List.getD_eq_getElem?_getD, List.getD_eq_getElem?_getD, List.getElem?_take, if_pos hi]) dst hd
/-- What a string's bytes, and the noughts behind them, are. -/
def strZs (w : World) (s : ByteArray) : List Int := bytesOf s ++ List.replicate (grownCap w s.size 0 5 - s.size) 0
theorem strZs_length (w : World) (s : ByteArray) : (strZs w s).length = grownCap w s.size 0 5 := by
 have := grownCap_ge w s.size 0 5
 simp [strZs, bytesOf_length]; omega
theorem strZs_take (w : World) (s : ByteArray) : (strZs w s).take s.size = bytesOf s := by
 rw [strZs, List.take_append_of_le_length (by rw [bytesOf_length]; exact Nat.le_refl _), List.take_of_length_le (by rw [bytesOf_length]; exact Nat.le_refl _)]
theorem BAt.of_string (w : World) (s : ByteArray) : BAt (bytesWorld w 5 s) w.heap.size (strZs w s) := by
 refine ⟨_, ?_, .inr rfl⟩
 rw [bytesWorld_at_new w 5 s]
 have e : bytesCells w 5 s = (nums .u8 (strZs w s)).toArray := by
  apply Array.ext'
  simp [bytesCells, strZs, nums, bytesOf]
 rw [e]
 simp [nums_length]
theorem bytesWorld_below (w : World) (s : ByteArray) : Below w.heap.size w (bytesWorld w 5 s) :=
 ⟨rfl, rfl, rfl, by rw [bytesWorld_size]; omega, fun k hk => bytesWorld_at_old w 5 s k hk⟩
theorem nums_spl (k : IntKind) (zs : List Int) (o : Nat) (cs : List Int) : spl (nums k zs) o (nums k cs) = nums k (spl zs o cs) := by
 simp [spl, nums, List.map_take, List.map_drop]
theorem spl_nil {α : Type} (zs : List α) (o : Nat) : spl zs o [] = zs := by simp [spl]
theorem nums_one (k : IntKind) (cs : List Int) : ∀ v ∈ nums k cs, v.oneCell' = true := by
 intro v hv
 obtain ⟨n, _, rfl⟩ := List.mem_map.1 hv
 rfl
/-- copy of bytes into such a block. -/
theorem copyB {P : Program} {w : World} {ops : Array Oper} {rest : List Oper} {o : Oper} {a : Act} {Q : Exit → Act → World → Prop} (hgd : o.guard = none) (d s : Operand) (dT sT : TypeId)
 (ho : o.op = .call { callee := .builtin .copy, args := #[d, s], argTypes := #[dT, sT] }) (elem : TypeId) (hu : P.underlying dT = some (.slice elem)) (hsz : (P.info? elem).map (·.size) = some 1)
 (dp sp : Option Addr) (dLen dCap sLen sCap : Nat) (hd : a.eval d = .slice dp dLen dCap) (hs : a.eval s = .slice sp sLen sCap)
 (g off : Nat) (zs : List Int) (hg : BAt w g zs) (cs : List Int) (hn : cs.length = Nat.min sLen dLen)
 (hpos : 0 < cs.length → dp = some ⟨g, off, none⟩ ∧ ∃ ad, sp = some ad ∧ ∀ j, j < cs.length → w.cell? (ad.add j) = some (.int .u8 (cs.getD j 0)))
 (hfit : 0 < cs.length → off + cs.length ≤ zs.length)
 (h : ∀ w', BAt w' g (spl zs off cs) → Fr (· = g) w w' → w'.heap.size = w.heap.size → wpList P ops Q rest (a.put o.dst (goInt cs.length)) w') :
 wpList P ops Q (o :: rest) a w := by
 obtain ⟨fr, hg1, hfr⟩ := hg
 refine copyR hgd d s dT sT ho elem hu hsz dp sp dLen dCap sLen sCap hd hs g off (nums .u8 zs) 5 fr hg1 (nums .u8 cs) (by rw [nums_length]; exact hn) ?_ ?_ ?_ (nums_one _ _) ?_
 ·intro hp
  rw [nums_length] at hp
  obtain ⟨h1, ad, h2, h3⟩ := hpos hp
  refine ⟨h1, ad, h2, fun j v hj => ?_⟩
  have hjl : j < cs.length := by
   have := (List.getElem?_eq_some_iff.1 hj).1
   rwa [nums_length] at this
  rw [nums_get _ _ _ hjl] at hj
  rw [h3 j hjl]; exact hj
 ·intro hp
  rw [nums_length] at hp
  rw [nums_length, nums_length]; exact hfit hp
 ·intro j h1 h2
  rw [nums_length] at h2
  have hf := hfit (by omega)
  rcases hfr with rfl | rfl
  ·simp
  ·simp; omega
 ·intro w' h1 h2 h3
  rw [nums_length]
  refine h w' ⟨fr, ?_, by
   rcases hfr with hfr | hfr
   ·exact .inl hfr
   ·refine .inr ?_
    rw [hfr]
    by_cases hp : 0 < cs.length
    ·rw [spl_length _ _ _ (hfit hp)]
    ·rw [List.eq_nil_of_length_eq_zero (show cs.length = 0 by omega), spl_nil]⟩ h2 h3
  rw [h1]
  split
  ·rename_i h0
   have : cs = [] := by
    have := congrArg List.length h0
    rw [nums_length] at this
    exact List.eq_nil_of_length_eq_zero this
   rw [this, spl_nil]
  ·rw [nums_spl]
/-- A row, cut to none of its cells. -/
theorem own_cut0 {w : World} {base : Nat} {e : TypeId} {size n g cap : Nat} {xs : List Value} (h : w.ownsRow base e size (.slice (some ⟨g, 0, none⟩) n cap) n xs) : w.ownsRow base e size (.slice (some ⟨g, 0, none⟩) 0 cap) 0 [] := by
 obtain ⟨_, h | ⟨g', cap', cur, hv, h1, h2, h3, h4, h5, h6⟩⟩ := h
 ·exact absurd h.1 (by simp)
 ·injection hv with e1 e2 e3
  injection e1 with e1
  injection e1 with e1
  subst e1 e3
  exact ⟨by simp, .inr ⟨g, cap, cur, rfl, h1, h2, Nat.zero_le _, h4, h5, by simp⟩⟩
theorem BAt.make (w : World) (n : Nat) : BAt (w.alloc (.cells (madeCells #[.int .u8 0] n) 5)) w.heap.size (List.replicate n 0) := by
 refine ⟨(0, 0), ?_, .inl rfl⟩
 rw [heap_new]
 congr 2
 apply Array.ext'
 rw [toList_madeCells_one]
 simp [nums]
/-- append(v, s...) with the word on where the new row lies. -/
theorem run_append_strF {P : Program} (w : World) (base : Nat) (t u ty e : TypeId) (i : TypeInfo) (ht : P.underlying t = some (.slice e)) (hu : P.underlying u = some .string) (hi : P.info? e = some i) (hz : i.zero = some (.int .u8 0))
 (hsize : i.size = 1) (hby : i.bytes = 1) (v : Value) (n : Nat) (xs : List Value) (hown : w.ownsRow base e 1 v n xs) (s : ByteArray)
 (h63 : n + s.size ≤ maxLen) (hbytes : n + s.size ≤ 140737488355328) (hbase : base ≤ w.heap.size) :
 ∃ v' w', (Builtin.append_ #[t, u] ty #[v, .string s]).run P w = .ok v' w' ∧ w'.ownsRow base e 1 v' (n + s.size) (xs ++ strCells s) ∧ w.grownBy w' v.ownBlock ∧
  (v'.ownBlock = v.ownBlock ∨ ∃ b, v'.ownBlock = some b ∧ w.heap.size ≤ b) := by
 obtain ⟨v', w', hr, h2, h3, _⟩ := run_append_own_string (P := P) w base t u ty e i ht hu hi hz hsize hby v n xs hown s h63 hbytes hbase
 refine ⟨v', w', hr, h2, h3, ?_⟩
 have hxl : xs.length = n := by simpa using hown.1
 rcases hown.2 with ⟨rfl, rfl⟩ | ⟨g, cap, cur, rfl, hbg, hg, hnc, hcm, hcs, htake⟩
 ·obtain ⟨v2, w2, hr2, h22, _, _⟩ := run_append_own_string (P := P) w w.heap.size t u ty e i ht hu hi hz hsize hby (.slice none 0 0) 0 [] (World.ownsRow_nil w _ e 1) s h63 hbytes (Nat.le_refl _)
  rw [hr] at hr2
  injection hr2 with e1 e2
  subst e1 e2
  cases hv : v'.ownBlock with
  | none => exact .inl rfl
  | some b => exact .inr ⟨b, rfl, own_base h22 b hv⟩
 ·have hcs' : cur.size = cap := by simpa using hcs
  unfold maxLen at h63
  by_cases hroom : n + s.size ≤ cap
  ·have hr2 := run_append_room_string (P := P) w t u ty e i ht hu hi hsize g n cap cur hg s hroom (by omega)
   rw [hr] at hr2
   injection hr2 with e1 e2
   subst e1
   exact .inl rfl
  ·have holds : ∀ j u, xs[j]? = some u → w.cell? ((⟨g, 0, none⟩ : Addr).add j) = some u := hown.cells (g := g) rfl
   have hr2 := run_append_grow_string (P := P) w t u ty e i (.int .u8 0) ht hu hi hz ⟨g, 0, none⟩ n cap xs (by rw [hsize]; simpa using hxl) holds s (by omega) (by omega) (by rw [hby]; exact growslice_fits (by omega) (by omega))
   rw [hr] at hr2
   injection hr2 with e1 e2
   subst e1
   exact .inr ⟨_, rfl, Nat.le_refl _⟩
theorem append_strF {P : Program} {ops : Array Oper} {rest : List Oper} {o : Oper} {a : Act} {Q : Exit → Act → World → Prop} {w0 W : World} (base : Nat) (hgd : o.guard = none) (s x : Operand) (t u e : TypeId)
 (ho : o.op = .call { callee := .builtin .append, args := #[s, x], argTypes := #[t, u] })
 (ht : P.underlying t = some (.slice e)) (hu : P.underlying u = some .string) (hinfo : (P.info? e).map (fun i => (i.zero, i.size, i.bytes)) = some (some (.int .u8 0), 1, 1))
 (v : Value) (xs : List Int) (y : ByteArray) (hs : a.eval s = v) (hx : a.eval x = .string y)
 (HO : W.ownsRow base e 1 v xs.length (nums .u8 xs)) (HB : Below base w0 W) (hbase : base ≤ W.heap.size) (hl : xs.length + y.size ≤ 140737488355328)
 (h : ∀ v1 w1, w1.ownsRow base e 1 v1 (xs ++ bytesOf y).length (nums .u8 (xs ++ bytesOf y)) → W.grownBy w1 v.ownBlock → (v1.ownBlock = v.ownBlock ∨ ∃ b, v1.ownBlock = some b ∧ W.heap.size ≤ b) → wpList P ops Q rest (a.put o.dst v1) w1) :
 wpList P ops Q (o :: rest) a W := by
 obtain ⟨i0, hi, hzz⟩ := Option.map_eq_some_iff.1 hinfo
 simp only [Prod.mk.injEq] at hzz
 obtain ⟨hz0, hz1, hz2⟩ := hzz
 refine wpList_plain hgd fun K hK => ?_
 obtain ⟨v', w', hr, h2, h3, h4⟩ := run_append_strF (P := P) W base t u o.type e i0 ht hu hi hz0 hz1 hz2 v xs.length (nums .u8 xs) HO y (by simp only [maxLen]; omega) hl hbase
 have hl2 : (xs ++ bytesOf y).length = xs.length + y.size := by rw [List.length_append, bytesOf_length]
 have hc : nums .u8 (xs ++ bytesOf y) = nums .u8 xs ++ Lib.strCells y := by
  rw [nums_append]
  congr 1
  simp [nums, bytesOf, Lib.strCells]
 unfold Oper.wp execOp
 simp only [ho, resolve, invoke, builtin, Sem.run_bind, Sem.run_pure, Result.andThen_ok, List.map_toArray, List.map_cons, List.map_nil, hs, hx, hr]
 exact hK _ _ (h v' w' (by rw [hl2, hc]; exact h2) h3 h4)
theorem spl_get {α : Type} (L : List α) (k : Nat) (vs : List α) (h : k + vs.length ≤ L.length) (i : Nat) : (spl L k vs)[i]? = if i < k then L[i]? else if i < k + vs.length then vs[i - k]? else L[i]? := by
 unfold spl
 by_cases h1 : i < k
 ·rw [if_pos h1, List.append_assoc, List.getElem?_append_left (by simp; omega), List.getElem?_take, if_pos h1]
 ·rw [if_neg h1]
  by_cases h2 : i < k + vs.length
  ·rw [if_pos h2, List.getElem?_append_left (by simp; omega), List.getElem?_append_right (by simp; omega)]
   congr 1
   simp; omega
  ·rw [if_neg h2, List.getElem?_append_right (by simp; omega), List.getElem?_drop]
   congr 1
   simp; omega
/-- A part of a row gives its place to a text of its length. -/
theorem spl_same (zs V : List Int) (n r m : Nat) (hr : r + m ≤ n) (hn : n ≤ zs.length) (hV : V.length = m) : (spl zs r V).take n = (zs.take n).take r ++ V ++ (zs.take n).drop (r + m) := by
 apply List.ext_getElem?
 intro i
 rw [List.getElem?_take, spl_get _ _ _ (by omega)]
 by_cases h0 : i < n
 ·rw [if_pos h0]
  by_cases h1 : i < r
  ·rw [if_pos h1, List.append_assoc, List.getElem?_append_left (by simp; omega), List.getElem?_take, if_pos h1, List.getElem?_take, if_pos h0]
  ·rw [if_neg h1]
   by_cases h2 : i < r + V.length
   ·rw [if_pos h2, List.getElem?_append_left (by simp; omega), List.getElem?_append_right (by simp; omega)]
    congr 1
    simp; omega
   ·rw [if_neg h2, List.getElem?_append_right (by simp; omega), List.getElem?_drop, List.getElem?_take, if_pos (by simp; omega)]
    congr 1
    simp; omega
 ·rw [if_neg h0, List.getElem?_eq_none (by simp; omega)]
/-- .. to a text of another length: what stands behind is moved first. -/
theorem spl_move (zs V : List Int) (n n1 r m l : Nat) (hr : r + m ≤ n) (hn : n ≤ n1) (hn1 : n1 ≤ zs.length) (hnew : n + l - m ≤ n1) (hV : V.length = l) :
 (spl (spl zs (r + l) ((zs.drop (r + m)).take (min (n1 - (r + m)) (n1 - (r + l))))) r V).take (n + l - m) = (zs.take n).take r ++ V ++ (zs.take n).drop (r + m) := by
 have hc : ((zs.drop (r + m)).take (min (n1 - (r + m)) (n1 - (r + l)))).length = min (n1 - (r + m)) (n1 - (r + l)) := by simp; omega
 apply List.ext_getElem?
 intro i
 rw [List.getElem?_take, spl_get _ _ _ (by rw [spl_length _ _ _ (by rw [hc]; omega)]; omega), spl_get _ _ _ (by rw [hc]; omega), hc]
 by_cases h0 : i < n + l - m
 ·rw [if_pos h0]
  by_cases h1 : i < r
  ·rw [if_pos h1, if_pos (by omega), List.append_assoc, List.getElem?_append_left (by simp; omega), List.getElem?_take, if_pos h1, List.getElem?_take, if_pos (by omega)]
  ·rw [if_neg h1]
   by_cases h2 : i < r + V.length
   ·rw [if_pos h2, List.getElem?_append_left (by simp; omega), List.getElem?_append_right (by simp; omega)]
    congr 1
    simp; omega
   ·rw [if_neg h2, if_neg (by omega), if_pos (by omega)]
    have e1 : ((zs.drop (r + m)).take (min (n1 - (r + m)) (n1 - (r + l))))[i - (r + l)]? = zs[i + m - l]? := by
     rw [List.getElem?_take, if_pos (by omega), List.getElem?_drop]
     congr 1
     omega
    have e2 : ((zs.take n).take r ++ V ++ (zs.take n).drop (r + m))[i]? = zs[i + m - l]? := by
     rw [List.getElem?_append_right (by simp; omega), List.getElem?_drop, List.getElem?_take, if_pos (by simp; omega)]
     congr 1
     simp; omega
    rw [e1, e2]
 ·rw [if_neg h0, List.getElem?_eq_none (by simp; omega)]
end H
end Go.Proofs.YtclmjmfcggkpaaaGreatDoor
namespace Go.Proofs.YtclmjmfcggkpaaaGreatDoor
open Go.RowKit Go.Proofs.YtclmjmfcggkpaaaGreatDoorW.PrintWords Go.Proofs.YtclmjmfcggkpaaaGreatDoorW.PrintLast Go.Proofs.YtclmjmfcggkpaaaGreatDoorW.PrintMore
namespace H
set_option maxHeartbeats 400000 in
set_option maxRecDepth 100000 in
theorem bufCap_call (base : Nat) (v : Value) (n0 : Nat) (xs0 : List Value) (m : Int) (w : World) (ho : w.ownsRow base 5 1 v n0 xs0) (hb : base ≤ w.heap.size) (hm : 0 ≤ m) (hn : m ≤ 140737488355328) :
 Calls Tryz.prog 191 #[v, .int .i64 m] w fun e w' => ∃ v', e = .returned v' ∧ w'.ownsRow base 5 1 v' 0 [] ∧ Below w.heap.size w w' ∧ (v'.ownBlock = v.ownBlock ∨ ∃ g, v'.ownBlock = some g ∧ w.heap.size ≤ g) := by
 obtain ⟨n, rfl⟩ := Int.eq_ofNat_of_zero_le hm
 obtain ⟨i, hi, hzz⟩ := Option.map_eq_some_iff.1 inf5
 simp only [Prod.mk.injEq] at hzz
 obtain ⟨hz0, hz1, hz2⟩ := hzz
 obtain ⟨wm, hmk, hmo, hmg⟩ := run_make_own (P := Tryz.prog) (w := w) w.heap.size 104 5 i (.int .u8 0) 1 Tryz.underlying104 hi hz0 hz1 .i64 .i64 n (by rw [hz2]; omega) (by simp only [maxLen]; omega) (Nat.le_refl _)
 have Hmo := Aside0.mk hmo; have Hmg := Aside0.mk hmg; clear hmo hmg hz0 hz1 hz2 hi
 have Ho := Aside0.mk ho
 obtain ⟨hl, ⟨rfl, rfl⟩ | ⟨g, cap, cur, rfl, h1, h2, h3, h4, h5, h6⟩⟩ := ho
 ·clear hl
  by_cases h0 : (0 : Int) < (n : Int)
  ·go_enter Tryz.func191, Tryz.ntmps191
   go_wp2
   go_ret
   exact ⟨_, rfl, own_low Hmo.out hb, (Below.refl _ _).grown Hmg.out (Nat.le_refl _) (by simp), .inr ⟨_, rfl, Nat.le_refl _⟩⟩
  ·go_enter Tryz.func191, Tryz.ntmps191
   go_wp2
   go_ret
   exact ⟨_, rfl, own_nil _ _ _ _, Below.refl _ _, .inl rfl⟩
 ·clear hl h2 h5 h6
  unfold maxLen at h4
  by_cases h0 : (cap : Int) < (n : Int)
  ·go_enter Tryz.func191, Tryz.ntmps191
   go_wp2
   go_ret
   exact ⟨_, rfl, own_low Hmo.out hb, (Below.refl _ _).grown Hmg.out (Nat.le_refl _) (by simp), .inr ⟨_, rfl, Nat.le_refl _⟩⟩
  ·go_enter Tryz.func191, Tryz.ntmps191
   go_wp2
   go_ret
   exact ⟨_, rfl, own_cut0 Ho.out, Below.refl _ _, .inl rfl⟩
/-- The buffer for a field's text: v is the row as it stands in w, vb as it stood in w0. -/
structure FB (B : Nat) (w0 : World) (vb : Value) (w : World) (v : Value) (xs : List Int) : Prop where
 own : w.ownsRow B 5 1 v xs.length (nums .u8 xs)
 at_ : v.ownBlock = vb.ownBlock ∨ ∃ g, v.ownBlock = some g ∧ w0.heap.size ≤ g
 fr : Fr (fun k => vb.ownBlock = some k) w0 w
theorem FB.next {B : Nat} {w0 w w1 : World} {vb v v1 : Value} {xs ys : List Int} (h : FB B w0 vb w v xs) (ho : w1.ownsRow B 5 1 v1 ys.length (nums .u8 ys)) (hg : w.grownBy w1 v.ownBlock)
 (hat : v1.ownBlock = v.ownBlock ∨ ∃ b, v1.ownBlock = some b ∧ w.heap.size ≤ b) : FB B w0 vb w1 v1 ys := by
 refine ⟨ho, ?_, h.fr.grown hg ?_⟩
 ·rcases hat with hat | ⟨b, hb, hle⟩
  ·rw [hat]; exact h.at_
  ·exact .inr ⟨b, hb, Nat.le_trans h.fr.size hle⟩
 ·intro k hk
  rcases h.at_ with ha | ⟨g, ha, hle⟩
  ·exact .inl (ha.symm.trans hk)
  ·rw [ha] at hk; injection hk with hk; subst hk; exact .inr hle
theorem FB.below {B : Nat} {w0 w w1 : World} {vb v : Value} {xs : List Int} (h : FB B w0 vb w v xs) (hb : Below w.heap.size w w1) : FB B w0 vb w1 v xs :=
 ⟨pw_own_below h.own hb, h.at_, h.fr.trans (Fr.of_below (S := fun _ => False) hb) (fun _ _ h => h.elim)⟩
theorem FB.base {B : Nat} {w0 w : World} {vb v : Value} {xs : List Int} (h : FB B w0 vb w v xs) (hB : B ≤ w0.heap.size) : B ≤ w.heap.size := Nat.le_trans hB h.fr.size
theorem FB.src {B : Nat} {w0 w : World} {vb : Value} {A : Option Addr} {L c : Nat} {xs : List Int} (h : FB B w0 vb w (.slice A L c) xs) :
 xs.length = L ∧ (0 < L → ∃ ad, A = some ad ∧ ∀ j, j < L → w.cell? (ad.add j) = some (.int .u8 (xs.getD j 0))) := by
 obtain ⟨A', c', he, hl, _, hr⟩ := own_reads h.own
 injection he with e1 e2 e3
 subst e1
 exact ⟨e2.symm, fun hp => by obtain ⟨ad, ha, hc⟩ := hr (by omega); exact ⟨ad, ha, fun j hj => hc j (by omega)⟩⟩
theorem FB.ne {B : Nat} {w0 w : World} {vb v : Value} {xs : List Int} (h : FB B w0 vb w v xs) {g : Nat} (hn : vb.ownBlock ≠ some g) (hg : g < w0.heap.size) : v.ownBlock ≠ some g := by
 rcases h.at_ with h | ⟨b, h, hb⟩
 ·rw [h]; exact hn
 ·rw [h]; intro e; injection e with e; omega
theorem own_src {B : Nat} {w : World} {A : Option Addr} {L c : Nat} {xs : List Int} (h : w.ownsRow B 5 1 (.slice A L c) xs.length (nums .u8 xs)) :
 xs.length = L ∧ (0 < L → ∃ ad, A = some ad ∧ ∀ j, j < L → w.cell? (ad.add j) = some (.int .u8 (xs.getD j 0))) := by
 obtain ⟨A', c', he, hl, _, hr⟩ := own_reads h
 injection he with e1 e2 e3
 subst e1
 exact ⟨e2.symm, fun hp => by obtain ⟨ad, ha, hc⟩ := hr (by omega); exact ⟨ad, ha, fun j hj => hc j (by omega)⟩⟩
theorem cut_cell {w : World} {g : Nat} {zs : List Int} (h : BAt w g zs) (a cnt j : Nat) (hc : a + cnt ≤ zs.length) (hj : j < ((zs.drop a).take cnt).length) :
 w.cell? ((⟨g, a, none⟩ : Addr).add j) = some (.int .u8 (((zs.drop a).take cnt).getD j 0)) := by
 have hj2 : j < cnt := by simp at hj; omega
 rw [plain_add, h.cell (a + j) (by omega)]
 congr 2
 rw [List.getD_eq_getElem?_getD, List.getD_eq_getElem?_getD, List.getElem?_take, if_pos hj2, List.getElem?_drop]
theorem FB.far {B : Nat} {w0 w w1 : World} {vb v : Value} {xs : List Int} (h : FB B w0 vb w v xs) {g1 : Nat} (hf : Fr (· = g1) w w1) (hg : w0.heap.size ≤ g1) (hn : v.ownBlock ≠ some g1) : FB B w0 vb w1 v xs :=
 ⟨hf.own h.own (fun k hk he => hn (by rw [hk, he])), h.at_, h.fr.trans hf (fun k hk he => by omega)⟩
/-- What replacePathElement leaves: the path's block g', its content; the buffer. -/
def RP (B : Nat) (w : World) (g : Nat) (vb : Value) (out : List Int) (e : Ending) (w' : World) : Prop :=
 ∃ (g' : Nat) (zs' : List Int) (vb' : Value) (nb' : Nat) (xb' : List Value), e = .returned (.tuple #[.slice (some ⟨g', 0, none⟩) out.length zs'.length, vb', .nilIface]) ∧ BAt w' g' zs' ∧ out.length ≤ zs'.length ∧ zs'.length ≤ 9223372036854775807 ∧ zs'.take out.length = out ∧
  (g' = g ∨ w.heap.size ≤ g') ∧ w'.ownsRow B 5 1 vb' nb' xb' ∧ (vb'.ownBlock = vb.ownBlock ∨ ∃ b, vb'.ownBlock = some b ∧ w.heap.size ≤ b) ∧ vb'.ownBlock ≠ some g' ∧ Fr (fun k => k = g ∨ vb.ownBlock = some k) w w'
end H
end Go.Proofs.YtclmjmfcggkpaaaGreatDoor
