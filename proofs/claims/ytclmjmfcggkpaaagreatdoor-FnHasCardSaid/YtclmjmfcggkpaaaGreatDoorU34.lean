import Derived.Test.YtclmjmfcggkpaaaGreatDoorU14
import Derived.Test.YtclmjmfcggkpaaaGreatDoorU32
set_option linter.unusedVariables false
set_option linter.unusedSimpArgs false
namespace Go.Proofs.YtclmjmfcggkpaaaGreatDoor
open Go.RowKit Go.Proofs.YtclmjmfcggkpaaaGreatDoorW.PrintWords Go.Proofs.YtclmjmfcggkpaaaGreatDoorW.PrintLast Go.Proofs.YtclmjmfcggkpaaaGreatDoorW.PrintMore
open PX
namespace HH
open H
/-! ### spec.HeadersOf: put -/
theorem below_up {L : List S73} {k : ByteArray} : ∀ {j : Nat}, (∀ (i : Nat) a, i < j → L[i]? = some a → kLt a.f0 k = true) → j ≤ L.length → (j = L.length ∨ ∃ a, L[j]? = some a ∧ kLt a.f0 k = false) → below L k = j := by
 induction L with
 | nil => intro j _ h _; simp at h; subst h; rfl
 | cons b L ih =>
   intro j h1 h2 h3
   rw [below_cons]
   cases j with
   | zero =>
     rcases h3 with h3 | ⟨a, ha, hk⟩
     ·simp at h3
     ·obtain rfl := Option.some.inj ha
      rw [if_neg (by rw [hk]; simp)]
   | succ j =>
     rw [if_pos (h1 0 b (by omega) rfl), ih (j := j) (fun i a hi ha => h1 (i + 1) a (by omega) (by simpa using ha)) (by simpa using h2) (by
      rcases h3 with h3 | ⟨a, ha, hk⟩
      ·exact .inl (by simpa using h3)
      ·exact .inr ⟨a, by simpa using ha, hk⟩)]
theorem SO.other {B ob t : Nat} {v : Value} {ps : List (S73 × Value)} {w w' : World} {cs : Array Value} {f : Nat × Nat} (h : SO B v ps w) (hob : w.heap[ob]? = some (.cells cs t f)) (ht : t ≠ 73 ∧ t ≠ 9) (hf : Fr (· = ob) w w') : SO B v ps w' := by
 refine ⟨hf.own h.own (fun k hk e => ?_), fun p hp => ?_⟩
 ·subst e
  obtain ⟨cells, hc⟩ := own_typed h.own k hk
  rw [hob] at hc; injection hc with hc; injection hc with _ hc; exact ht.1 hc
 ·have hR := h.inn p hp
  refine Kd.R_mono (Kd.R_step (Kd.R_tight (by rfl) hR) (fun k hk hlt => hf.block k hlt (fun e => ?_))) (fun _ _ => trivial)
  subst e
  obtain ⟨inner, ho⟩ := Kd.R_own hR
  obtain ⟨cells, hc⟩ := own_typed ho k hk.symm
  rw [hob] at hc; injection hc with hc; injection hc with _ hc; exact ht.2 hc
theorem SO.ne {B ob t : Nat} {v : Value} {ps : List (S73 × Value)} {w : World} {cs : Array Value} {f : Nat × Nat} (h : SO B v ps w) (hob : w.heap[ob]? = some (.cells cs t f)) (ht : t ≠ 73) (k : Nat) (hk : v.ownBlock = some k) : k ≠ ob := by
 rintro rfl
 obtain ⟨cells, hc⟩ := own_typed h.own k hk
 rw [hob] at hc; injection hc with hc; injection hc with _ hc; exact ht hc
def Sv (B ob : Nat) (w : World) (k : Nat) : Prop := B ≤ k ∧ (k = ob ∨ ∃ cs f, w.heap[k]? = some (.cells cs 73 f))
theorem sv_of {B ob g : Nat} {v v1 : Value} {ps ps1 : List (S73 × Value)} {w w1 : World} (hO : SO B v ps w) (hg : w.grownBy w1 v.ownBlock) (hS : SO B v1 ps1 w1) (h : v1.ownBlock = some g) : Sv B ob w g ∨ w.heap.size ≤ g := by
 rcases Nat.lt_or_ge g w.heap.size with hlt | hge
 ·left
  refine ⟨own_base hS.own g h, .inr ?_⟩
  by_cases e : some g = v.ownBlock
  ·obtain ⟨cells, hc⟩ := own_typed hO.own g e.symm
   exact ⟨_, _, hc⟩
  ·obtain ⟨cells, hc⟩ := own_typed hS.own g h
   exact ⟨_, _, (hg.block g hlt e).symm.trans hc⟩
 ·exact .inr hge
theorem fr_grow {B ob : Nat} {v : Value} {ps : List (S73 × Value)} {w w1 : World} (hO : SO B v ps w) (hg : w.grownBy w1 v.ownBlock) : Fr (Sv B ob w) w w1 :=
 (Fr.refl _ w).grown hg (fun k hk => .inl ⟨own_base hO.own k hk, .inr (by obtain ⟨cells, hc⟩ := own_typed hO.own k hk; exact ⟨_, _, hc⟩)⟩)
theorem Sv.below {B ob : Nat} {w w1 : World} (h : Fr (Sv B ob w) w w1) (hB : B ≤ w.heap.size) : Below B w w1 := h.below hB (fun _ _ hs => hs.1)
theorem insP_len (ps : List (S73 × Value)) (j : Nat) (hj : j ≤ ps.length) (q : S73 × Value) : (insP ps j q).length = ps.length + 1 := by simp [insP]; omega
theorem insP_get (ps : List (S73 × Value)) (j : Nat) (hj : j ≤ ps.length) (q : S73 × Value) : (insP ps j q)[j]? = some q := by
 unfold insP
 rw [List.getElem?_append_right (by rw [List.length_take]; omega), List.length_take, Nat.min_eq_left hj, Nat.sub_self]
 rfl
theorem insP_reset (ps : List (S73 × Value)) (j : Nat) (hj : j ≤ ps.length) (q q' : S73 × Value) : (insP ps j q).set j q' = insP ps j q' := by
 unfold insP
 have hl : (ps.take j).length = j := by rw [List.length_take, Nat.min_eq_left hj]
 rw [List.set_append_right _ _ (by omega), hl, Nat.sub_self]
 rfl
theorem put_new {L : List S73} {k : ByteArray} {vs : List ByteArray} {add : Bool} {j : Nat} (hb : below L k = j) (hn : ∀ a, L[j]? = some a → a.f0 ≠ k) : putH L k vs add = insH L ⟨k, vs⟩ := by
 unfold putH
 rw [hb]
 split
 ·rename_i a ha
  rw [if_neg (hn a ha)]
 ·rfl
theorem put_old {L : List S73} {k : ByteArray} {vs : List ByteArray} {add : Bool} {j : Nat} {a : S73} (hb : below L k = j) (ha : L[j]? = some a) (hk : a.f0 = k) : putH L k vs add = L.set j ⟨k, (if add then a.f1 else []) ++ vs⟩ := by
 unfold putH
 rw [hb, ha]
 simp only [hk, if_true]
theorem put_end {B ob g cap j : Nat} {L : List (S73 × Value)} {w W w5 : World} {p : S73 × Value} {v : Value} {xs : List ByteArray} {R : List S73} (hS : SO B (.slice (some ⟨g, 0, none⟩) L.length cap) L W) (hp : L[j]? = some p)
 (hob : W.heap[ob]? = some (.cells #[.slice (some ⟨g, 0, none⟩) L.length cap] 31 (0, 0))) (hB : Below B w W) (hBW : B ≤ W.heap.size) (hb : Below W.heap.size W w5) (hR : Kd.string.R 9 w5 W.heap.size (fun _ => True) v xs)
 (hE : ∀ u, (L.set j (⟨p.1.f0, xs⟩, u)).map (·.1) = R) (hF : Fr (Sv B ob w) w W) (hsv : Sv B ob w g ∨ w.heap.size ≤ g) :
 ∃ v' ps', (w5.setCell ⟨g, j * 2 + 1, none⟩ v).heap[ob]? = some (.cells #[v'] 31 (0, 0)) ∧ SO B v' ps' (w5.setCell ⟨g, j * 2 + 1, none⟩ v) ∧ ps'.map (·.1) = R ∧ Below B w (w5.setCell ⟨g, j * 2 + 1, none⟩ v) ∧ Fr (Sv B ob w) w (w5.setCell ⟨g, j * 2 + 1, none⟩ v) := by
 have hS5 := hS.calm hb
 have hob5 := heap_below hb hob
 have hne : ob ≠ g := fun e => hS5.ne hob5 (by decide) g rfl e.symm
 have hgB := own_base hS5.own g rfl
 exact ⟨_, _, heap_far hob5 hne v, hS5.setV j p hp v xs (Kd.R_lower hR hBW), hE v, (below_then hB hBW hb).setCell (p := ⟨g, j * 2 + 1, none⟩) hgB v, (hF.trans (Fr.of_below (S := fun _ => False) hb) (fun _ _ h => h.elim)).setCell (p := ⟨g, j * 2 + 1, none⟩) hsv v⟩
set_option maxHeartbeats 4000000 in
set_option maxRecDepth 100000 in
theorem put_call (B ob : Nat) (v : Value) (ps : List (S73 × Value)) (key : ByteArray) (Av : Option Addr) (cv : Nat) (vals : List ByteArray) (add : Bool) (w : World) (hob : w.heap[ob]? = some (.cells #[v] 31 (0, 0))) (hO : SO B v ps w) (hBo : B ≤ ob)
 (hS : srt (ps.map (·.1))) (hn : ps.length ≤ 1000000) (hl : ∀ p ∈ ps, p.1.f1.length ≤ 100000) (hv : ∀ w', Fr (Sv B ob w) w w' → Kd.string.C w' Av vals.length vals) (hcv : vals.length ≤ cv) (hvl : vals.length ≤ 100000) :
 Calls Tryz.prog 55 #[.string key, .slice Av vals.length cv, .bool add, .pointer (some ⟨ob, 0, none⟩)] w fun e w' => e = .returned (.tuple #[]) ∧ ∃ v' ps', w'.heap[ob]? = some (.cells #[v'] 31 (0, 0)) ∧ SO B v' ps' w' ∧ ps'.map (·.1) = putH (ps.map (·.1)) key vals add ∧ Below B w w' ∧ Fr (Sv B ob w) w w' := by
 have hc := cell_of hob
 obtain ⟨A3, c3, e3⟩ := own_slice hO.own
 subst e3
 replace hob := Aside0.mk hob; replace hO := Aside0.mk hO; replace hS := Aside0.mk hS; replace hl := Aside0.mk hl; replace hv := Aside0.mk hv
 go_enter Tryz.func55, Tryz.ntmps55
 go_wp2_with fail
 have hplI : (0 : Int) ≤ (ps.length : Int) := by omega
 go_loopg [7] ps.length (fun g v7 w' => ∃ j : Nat, j ≤ ps.length ∧ v7 = .int .i64 j ∧ Aside0 (g = ps.length - j) ∧ Aside0 (∀ (i : Nat) b, i < j → (ps.map (·.1))[i]? = some b → kLt b.f0 key = true) ∧ Aside0 (w' = w))
 case atStart => exact ⟨0, Nat.zero_le _, rfl, ⟨by omega⟩, ⟨fun i b hi => by omega⟩, ⟨rfl⟩⟩
 case round =>
  obtain ⟨j, hj, rfl, hg, hlow, hw⟩ := hrel
  have hw := hw.out
  subst hw
  by_cases hcont : ∃ p, ps[j]? = some p ∧ kLt p.1.f0 key = true
  ·obtain ⟨p, hp, hk⟩ := hcont
   have hjl := (List.getElem?_eq_some_iff.1 hp).1
   obtain ⟨g3, cap3, e3, hc3, _⟩ := hO.out.form (by omega)
   injection e3 with e3 _ e3'
   subst e3 e3'
   obtain ⟨x0, _⟩ := hO.out.cell j p hp
   have hlow2 : Aside0 (∀ (i : Nat) b, i < j + 1 → (ps.map (·.1))[i]? = some b → kLt b.f0 key = true) := .mk (fun i b hi hb => by
    rcases Nat.lt_or_ge i j with h | h
    ·exact hlow.out i b h hb
    ·obtain rfl : i = j := by omega
     rw [List.getElem?_map, hp] at hb
     obtain rfl := Option.some.inj hb
     exact hk)
   have q1 : (j : Int) < (ps.length : Int) := by omega
   have q2 : (0 : Int) ≤ (j : Int) := by omega
   have q3 : IntKind.i64.wrap ((j : Int) + 1) = (j : Int) + 1 := wr64 j (by omega)
   unfold kLt at hk
   go_wp2_with fail
   go_roundg (ps.length - (j + 1))
   case measure => have := hg.out; omega
   case rel => exact ⟨j + 1, by omega, by go_num, ⟨rfl⟩, hlow2, ⟨rfl⟩⟩
  ·have hexit : j = ps.length ∨ ∃ p, j < ps.length ∧ ps[j]? = some p ∧ kLt p.1.f0 key = false := by
    rcases Nat.eq_or_lt_of_le hj with h | h
    ·exact .inl h
    ·refine .inr ⟨ps[j], h, List.getElem?_eq_getElem h, ?_⟩
     rw [Bool.eq_false_iff]
     intro hk
     exact hcont ⟨_, List.getElem?_eq_getElem h, hk⟩
   have hbl : Aside0 (below (ps.map (·.1)) key = j) := .mk (below_up hlow.out (by rw [List.length_map]; exact hj) (by
    rcases hexit with h | ⟨p, _, hp, hk⟩
    ·exact .inl (by rw [List.length_map]; exact h)
    ·exact .inr ⟨p.1, by rw [List.getElem?_map, hp]; rfl, hk⟩))
   have q2 : (0 : Int) ≤ (j : Int) := by omega
   have q3 : IntKind.i64.wrap ((j : Int) + 1) = (j : Int) + 1 := wr64 j (by omega)
   clear hcont
   have hszB : Aside0 (B ≤ wr.heap.size) := .mk (by have := lt_of hob.out; omega)
   cases add
   ·have hbl2 := hbl.out
    rcases hexit with h0 | ⟨p, hjl, hp, hk⟩
    rotate_left 1
    obtain ⟨g3, cap3, eO, hcO, _⟩ := hO.out.form (by omega)
    injection eO with eO _ eO'
    subst eO eO'
    obtain ⟨z0, z1⟩ := hO.out.cell j p hp
    have q1 : (j : Int) < (ps.length : Int) := by omega
    have q5 : ((j : Int) == (ps.length : Int)) = false := by simp; omega
    have hk2 := hk
    unfold kLt at hk
    replace hbl2 := Aside0.mk hbl2
    by_cases hke : p.1.f0 = key
    ·have q6 : (p.1.f0.toList == key.toList) = true := by rw [hke]; simp
     obtain ⟨A8, c8, e8⟩ := Kd.R_slice (hO.out.inn p (List.mem_of_getElem? hp))
     have x0 := z0
     have x1 := z1
     rw [e8] at x1
     obtain ⟨y0, y1⟩ := hO.out.free j
     have hneO : Aside0 (ob ≠ g3) := .mk (fun e => hO.out.ne hob.out (by decide) g3 rfl e.symm)
     have hne7 := hneO
     have hsv : Aside0 (Sv B ob wr g3 ∨ wr.heap.size ≤ g3) := .mk (.inl ⟨own_base hO.out.own g3 rfl, .inr (by obtain ⟨cells, hc⟩ := own_typed hO.out.own g3 rfl; exact ⟨_, _, hc⟩)⟩)
     have hrd : Aside0 (Kd.string.C wr A8 p.1.f1.length p.1.f1) := .mk (by
      obtain ⟨A1, k1, e1, l1, r1⟩ := Kd.R_reads (hO.out.inn p (List.mem_of_getElem? hp))
      rw [e8] at e1
      injection e1 with e1 _ _
      subst e1
      exact r1)
     replace e8 := Aside0.mk e8
     replace hke := Aside0.mk hke
     clear z0 z1
     go_wp2_with fail
     have hS8 := hO.out.setV j p hp (.slice none 0 0) [] (Kd.R_nil _ _ _ _ _)
     have hne7 : Aside0 (ob ≠ g3) := hneO
     have hob8 := heap_far hob.out (p := ⟨g3, j * 2 + 1, none⟩) hneO.out (.slice none 0 0)
     have hF8 := (Fr.refl (Sv B ob wr) wr).setCell (p := ⟨g3, j * 2 + 1, none⟩) hsv.out (.slice none 0 0)
     generalize wr.setCell ⟨g3, j * 2 + 1, none⟩ (.slice none 0 0) = W1 at *
     have hls : (ps.set j (⟨p.1.f0, []⟩, .slice none 0 0)).length = ps.length := List.length_set
     replace hS8 : SO B (.slice (some ⟨g3, 0, none⟩) (ps.set j (⟨p.1.f0, []⟩, .slice none 0 0)).length c3) (ps.set j (⟨p.1.f0, []⟩, .slice none 0 0)) W1 := by rw [hls]; exact hS8
     have hS7 := Aside0.mk hS8
     have h7ob : Aside0 (W1.heap[ob]? = some (.cells #[.slice (some ⟨g3, 0, none⟩) (ps.set j (⟨p.1.f0, []⟩, .slice none 0 0)).length c3] 31 (0, 0))) := .mk (by rw [hls]; exact hob8)
     have hp7 : Aside0 ((ps.set j (⟨p.1.f0, []⟩, .slice none 0 0))[j]? = some ((⟨p.1.f0, []⟩ : S73), Value.slice none 0 0)) := .mk (by rw [List.getElem?_set, if_pos rfl, if_pos hjl])
     have hz7 := Aside0.mk (hS8.cell j _ hp7.out).2
     have hv7 := Aside0.mk (hv.out W1 hF8)
     have hF7 := Aside0.mk hF8
     have hB7 := Aside0.mk (Sv.below hF8 hszB.out)
     have hBs7 : Aside0 (B ≤ W1.heap.size) := .mk (Nat.le_trans hszB.out hF8.size)
     have hC8 : Aside0 (Kd.string.C W1.drew none ([] : List ByteArray).length []) := .mk ⟨rfl, by simp, fun h => absurd h (by simp)⟩
     have hl8 : Aside0 (([] : List ByteArray).length ≤ 1000000) := .mk (by simp)
     have hE7 : Aside0 (∀ u, ((ps.set j (⟨p.1.f0, []⟩, .slice none 0 0)).set j (⟨p.1.f0, [] ++ vals⟩, u)).map (·.1) = putH (ps.map (·.1)) key vals false) := .mk (fun u => by
      rw [List.set_set, put_old hbl.out (by rw [List.getElem?_map, hp]; rfl) hke.out, List.map_set, hke.out]
      rfl)
     clear hS8 hF8 hob8 x0 x1 y0 y1
     have h7oL := h7ob
     rw [hls] at h7ob
     clear hls
     have cobT := cell_of h7ob.out
     have zT := hz7.out
     replace h7ob := Aside0.mk h7ob.out
     refine wp_region_noPanic ?_
     refine wp_region_held_drew (S := fun w' => w'.cell? ⟨ob, 0, none⟩ = some (.slice (some ⟨g3, 0, none⟩) ps.length c3)) (by kernel_rfl) cobT (fun hHeld => ?_)
     refine tk 0 ?_
     refine tk 1 ?_
     refine tk 3 ?_
     refine tk 4 ?_
     refine tk 5 ?_
     refine tk 6 ?_
     refine tk 9 ?_
     refine wpAnyH_ready (rs := [2, 7]) (by kernel_rfl) (by simp) ?_
     refine AllReadyH.cons rfl (fun K hK => ?_) (AllReadyH.cons rfl (fun K hK => ?_) AllReadyH.nil)
     go_simp
     refine hK.out _ _ (cell_of_alloc cobT) (fun hHeld => ?_)
     clear hK K
     skip
     have zA : (W1.alloc (.cells #[] 9)).cell? ⟨g3, j * 2 + 1, none⟩ = some (.slice none ([] : List ByteArray).length 0) := cell_of_alloc zT
     try simp only [List.length_nil] at zA
     refine rd1 7 (fun K hK => ?_)
     go_simp
     rotate_left 1
     go_simp
     refine hK.out _ _ cobT (fun hHeld => ?_)
     clear hK K
     skip
     refine rd1 2 (fun K hK => ?_)
     go_simp
     all_goals
      refine hK.out _ _ (cell_of_alloc cobT) (fun hHeld => ?_)
      clear hK K
      skip
      refine rd1 8 (fun K hK => ?_)
      refine append_copy_step (W := W1.drew) (by rfl) (.tmp 61) (.tmp 66) rfl [] none 0 rfl rfl hC8.out hl8.out ?_
      intro v1 u4 hR4 hb4
      have hb4' : Below W1.heap.size W1 u4 := ⟨hb4.os, hb4.tape, hb4.output, hb4.size, hb4.block⟩
      have cob4 := cell_of (heap_below hb4' h7ob.out)
      refine hK.out _ _ cob4 (fun hHeld => ?_)
      clear hK K
      try simp only [Act.put, List.setIfInBounds_toArray, List.set_cons_zero, List.set_cons_succ]
      refine rd1 10 (fun K hK => ?_)
      refine Kd.R_append_rows_step Kd.string (w0 := u4) W1.heap.size (by rfl) (.tmp 67) (.tmp 68) 67 9 (.string ⟨#[]⟩) 16 rfl Tryz.underlying67 inf9 rfl (by decide) (by omega) v1 ([] : List ByteArray) vals Av vals.length cv (fun _ => True) (fun _ => False) rfl rfl hR4 (Kd.C_below hv7.out hb4') (fun _ _ h => h) (fun _ hk => hk.elim) (fun _ _ => trivial) (Below.refl _ _) hb4'.size (by have := hl8.out; (try simp only [List.length_nil] at this ⊢); omega) ?_
      intro v2 u5 hR5 hb5 _ _
      have hb5' : Below W1.heap.size W1 u5 := hb4'.trans hb5
      have cob5 := cell_of (heap_below hb5' h7ob.out)
      refine hK.out _ _ cob5 (fun hHeld => ?_)
      clear hK K
      try simp only [Act.put, List.setIfInBounds_toArray, List.set_cons_zero, List.set_cons_succ]
      obtain ⟨A2, k2, rfl⟩ := Kd.R_slice hR5
      generalize hnA : ([] ++ vals).length = nA at *
      replace hnA := Aside0.mk hnA
      have hS5 := hS7.out.calm hb5'
      obtain ⟨_, x1⟩ := hS5.cell_ex j (by first | omega | (simp [insP]; omega))
      obtain ⟨_, y1⟩ := hS5.free j
      have cob6 := cell_of (heap_far (heap_below hb5' h7ob.out) hne7.out (p := ⟨g3, j * 2 + 1, none⟩) (.slice A2 nA k2))
      have hend := put_end (w := wr) hS7.out hp7.out h7oL.out hB7.out hBs7.out hb5' hR5 hE7.out hF7.out hsv.out
      replace hend := Aside0.mk hend; replace hR4 := Aside0.mk hR4; replace hR5 := Aside0.mk hR5; replace hS5 := Aside0.mk hS5; replace hb4 := Aside0.mk hb4; replace hb4' := Aside0.mk hb4'; replace hb5' := Aside0.mk hb5'; replace hb5 := Aside0.mk hb5
      refine tk 11 ?_
      refine tk 12 ?_
      refine rd1 13 (fun K hK => ?_)
      go_simp
      refine hK.out _ _ cob6 (fun hHeld => ?_)
      clear hK K
      skip
      refine wpAnyH_done (by kernel_rfl) ?_ _
      refine NoPanic.normal ?_
      refine bodyPost_end (results_none rfl _ _ _) rfl ?_
      exact ⟨rfl, hend.out⟩
    have q7 : (j : Int) < (ps.length : Int) + 1 := by omega
    have hnk : Aside0 (∀ a, (ps.map (·.1))[j]? = some a → a.f0 ≠ key) := .mk (fun a ha => by
     rw [List.getElem?_map, hp] at ha
     obtain rfl := Option.some.inj ha
     exact hke)
    have q6 : (p.1.f0.toList == key.toList) = false := by rw [beq_eq_false_iff_ne]; exact fun e => hke (toList_inj e)
    clear z1
    rotate_left 1
    have q1 : ¬ ((j : Int) < (ps.length : Int)) := by omega
    have q4 : (ps.length : Int) ≤ (j : Int) := by omega
    have q5 : ((j : Int) == (ps.length : Int)) = true := by simp; omega
    have q7 : (j : Int) < (ps.length : Int) + 1 := by omega
    have hnk : Aside0 (∀ a, (ps.map (·.1))[j]? = some a → a.f0 ≠ key) := .mk (fun a ha => by have := (List.getElem?_eq_some_iff.1 ha).1; rw [List.length_map] at this; omega)
    replace h0 := Aside0.mk h0
    clear hbl2
    all_goals
     go_wp2_with ((with_reducible refine gate_builtin (b := .append) (xs := #[.tmp 36, .tmp 38]) rfl ?_); at_builtin; refine print_append_cells (w0 := wr) B rfl (.tmp 36) (.tmp 38) 31 73 (.agg #[.string ⟨#[]⟩, .slice none 0 0]) 2 40 rfl Tryz.underlying31 inf73 rfl (by decide) (by decide) _ ps.length (flat ps) [.string ⟨#[]⟩, .slice none 0 0] rfl rfl rfl (by intro u hu; simp at hu; rcases hu with rfl | rfl <;> rfl) hO.out.own (Below.refl _ _) hszB.out (by omega) ?_; intro v1 w3 ho1 hb1 hg1 hat1; have hS1 := hO.out.pushed hg1 ho1; obtain ⟨g3, cap3, e3, hc3', hcm'⟩ := hS1.form (by simp); rw [List.length_append] at e3 hc3'; subst e3; simp only [List.length_cons, List.length_nil, Nat.zero_add] at hc3'; have hge3 := Aside0.mk (own_base hS1.own g3 rfl); have hsv := Aside0.mk (sv_of (ob := ob) hO.out hg1 hS1 (g := g3) rfl); have hob3 := (hg1.block ob (lt_of hob.out) (fun e => hO.out.ne hob.out (by decide) ob e.symm rfl)).trans hob.out; have cob := cell_of hob3; have fob := free_of hob3 0; have hne3 : Aside0 (¬ g3 = ob) := .mk (hS1.ne hob3 (by decide) g3 rfl); have hfr3 := Aside0.mk (fr_grow (ob := ob) hO.out hg1); replace hob3 := Aside0.mk hob3; replace hS1 := Aside0.mk hS1; clear ho1 hb1 hg1 hat1)
     have hob4 := heap_set hob3.out 0 (.slice (some ⟨g3, 0, none⟩) (ps.length + 1) cap3)
     simp only [List.setIfInBounds_toArray, List.set_cons_zero] at hob4
     have hfo : Fr (· = ob) w3 (w3.setCell ⟨ob, 0, none⟩ (.slice (some ⟨g3, 0, none⟩) (ps.length + 1) cap3)) := (Fr.refl (· = ob) w3).setCell (p := ⟨ob, 0, none⟩) (.inl rfl) _
     have hS4 := hS1.out.other hob3.out (by decide) hfo
     have hF4 := hfr3.out.setCell (p := ⟨ob, 0, none⟩) (.inl ⟨hBo, .inl rfl⟩) (.slice (some ⟨g3, 0, none⟩) (ps.length + 1) cap3)
     clear hfo cob fob hob3 hS1 hfr3
     generalize w3.setCell ⟨ob, 0, none⟩ (.slice (some ⟨g3, 0, none⟩) (ps.length + 1) cap3) = w4 at *
     have cob4 := cell_of hob4
     have hcut1 := fun W => cut31 g3 (ps.length + 1) cap3 (j + 1) (by omega) ((j : Int) + 1) (by omega) W
     have hcut2 := fun W => cut31 g3 (ps.length + 1) cap3 j (by omega) (j : Int) rfl W
     obtain ⟨dA, hdA⟩ : ∃ d : Option Addr, d = (if cap3 = j + 1 then some ⟨g3, 0, none⟩ else some ⟨g3, (j + 1) * 2, none⟩) := ⟨_, rfl⟩
     obtain ⟨dB, hdB⟩ : ∃ d : Option Addr, d = (if cap3 = j then some ⟨g3, 0, none⟩ else some ⟨g3, j * 2, none⟩) := ⟨_, rfl⟩
     rw [← hdA] at hcut1
     rw [← hdB] at hcut2
     replace hdA := Aside0.mk hdA; replace hdB := Aside0.mk hdB; replace hS4 := Aside0.mk hS4; replace hF4 := Aside0.mk hF4; replace hob4 := Aside0.mk hob4
     go_still_tail 7, (by kernel_rfl)
     change wpList _ _ _ _ _ w4.drew
     obtain ⟨cur, hcur, hcl, hct⟩ := hS4.out.cells (by simp)
     have hS4d : SO B (.slice (some ⟨g3, 0, none⟩) (ps.length + 1) cap3) (ps ++ [pz]) w4.drew := ⟨hS4.out.own, hS4.out.inn⟩
     have hct' : cur.take ((ps.length + 1) * 2) = flat (ps ++ [pz]) := by simpa using hct
     have hfl := flat_len (ps.drop j)
     rw [List.length_drop] at hfl
     refine copyS rfl (.tmp 43) (.tmp 46) 31 31 rfl 73 2 (by omega) Tryz.underlying31 (by obtain ⟨k, hk, hz⟩ := Option.map_eq_some_iff.1 inf73; simp only [Prod.mk.injEq] at hz; simp [hk, hz]) dA dB (ps.length - j) (cap3 - (j + 1)) (ps.length + 1 - j) (cap3 - j) rfl rfl g3 ((j + 1) * 2) (ps.length - j) cur 73 hcur (flat (ps.drop j)) (by show _ = min _ _; omega) hfl (fun hp => ?_) (fun hp => by omega) (flat_one _ (fun q hq => hO.out.one q (List.mem_of_mem_drop hq))) ?_
     ·refine ⟨hdA.out.trans (if_neg (by omega)), ⟨g3, j * 2, none⟩, hdB.out.trans (if_neg (by omega)), fun i v hi => ?_⟩
      rw [flat_drop ps j hj, List.getElem?_drop] at hi
      have h1 : (flat (ps ++ [pz]))[j * 2 + i]? = some v := by
       rw [flat_app, List.getElem?_append_left (List.getElem?_eq_some_iff.1 hi).1]; exact hi
      rw [← hct', List.getElem?_take] at h1
      split at h1
      ·rw [plain_add]
       show World.cell? w4 _ = _
       rw [cell_at hcur, List.getElem?_toArray]; exact h1
      ·cases h1
     intro w5 h5 hf5 hz5
     have hS5 := hS4d.moved hj hcur h5 hf5
     have hfz : Fr (· = g3) w4 w5 := ⟨hf5.os, hf5.tape, hf5.output, hf5.size, hf5.block⟩
     have hF5 : Aside0 (Fr (Sv B ob wr) wr w5) := .mk ⟨hfz.os.trans hF4.out.os, hfz.tape.trans hF4.out.tape, hfz.output.trans hF4.out.output, Nat.le_trans hF4.out.size hfz.size, fun k hk hn => (hfz.block k (Nat.lt_of_lt_of_le hk hF4.out.size) (fun e => by subst e; rcases hsv.out with h | h; exact hn h; omega)).trans (hF4.out.block k hk hn)⟩
     have hob5 := hfz.heap hob4.out (fun e => hne3.out e.symm)
     have cob5 := cell_of hob5
     have hlj : j < ((ps ++ [pz]).take (j + 1) ++ ps.drop j).length := by simp; omega
     obtain ⟨x0, x1⟩ := hS5.cell_ex j hlj
     obtain ⟨y0, y1⟩ := hS5.free j
     have hlen' : ((ps ++ [pz]).take (j + 1) ++ ps.drop j).length = ps.length + 1 := by simp; omega
     have hS6 := (show SO B (.slice (some ⟨g3, 0, none⟩) ((ps ++ [pz]).take (j + 1) ++ ps.drop j).length cap3) ((ps ++ [pz]).take (j + 1) ++ ps.drop j) w5 by rw [hlen']; exact hS5).setH j hlj key (.slice none 0 0) [] (Kd.R_nil _ _ _ _ _)
     rw [hlen', insP_set ps j hj] at hS6
     have hne7 : Aside0 (ob ≠ g3) := .mk (fun e => hne3.out e.symm)
     have hF6 := (hF5.out.setCell (p := ⟨g3, j * 2, none⟩) hsv.out (.string key)).setCell (p := ⟨g3, j * 2 + 1, none⟩) hsv.out (.slice none 0 0)
     have hob6 := heap_far (heap_far hob5 (p := ⟨g3, j * 2, none⟩) hne7.out (.string key)) (p := ⟨g3, j * 2 + 1, none⟩) hne7.out (.slice none 0 0)
     replace hS6 := Aside0.mk hS6; replace hF6 := Aside0.mk hF6; replace hob6 := Aside0.mk hob6; replace hob5 := Aside0.mk hob5
     clear hz5 hcut1 hcut2 hcur hcl hct hct' hfl h5 hf5 hfz hS4d hS4 hF4 hS5 hF5 hlen' cob4 hob4
     have cob6 := cell_of hob6.out
     obtain ⟨x6', x6⟩ := hS6.out.cell_ex j (by rw [insP_len ps j hj]; omega)
     have y6 := (hS6.out.free j).2
     go_wp2_with fail
     replace hS6 := hS6.out; replace hF6 := hF6.out; replace hob6 := hob6.out
     have hS8 := (show SO B (.slice (some ⟨g3, 0, none⟩) (insP ps j (⟨key, []⟩, .slice none 0 0)).length cap3) (insP ps j (⟨key, []⟩, .slice none 0 0)) (((w5.setCell ⟨g3, j * 2, none⟩ (.string key)).setCell ⟨g3, j * 2 + 1, none⟩ (.slice none 0 0))) by rw [insP_len ps j hj]; exact hS6).setV j _ (insP_get ps j hj _) (.slice none 0 0) [] (Kd.R_nil _ _ _ _ _)
     rw [insP_len ps j hj, insP_reset ps j hj] at hS8
     have hF8 := hF6.setCell (p := ⟨g3, j * 2 + 1, none⟩) hsv.out (.slice none 0 0)
     have hob8 := heap_far hob6 (p := ⟨g3, j * 2 + 1, none⟩) hne7.out (.slice none 0 0)
     clear hS6 hF6 hob6
     generalize (((w5.setCell ⟨g3, j * 2, none⟩ (.string key)).setCell ⟨g3, j * 2 + 1, none⟩ (.slice none 0 0)).setCell ⟨g3, j * 2 + 1, none⟩ (.slice none 0 0)) = W1 at *
     clear x0 x1 y0 y1 x6 x6' y6 cob6 cob5 hob5
     replace hS8 : SO B (.slice (some ⟨g3, 0, none⟩) (insP ps j (⟨key, []⟩, .slice none 0 0)).length cap3) (insP ps j (⟨key, []⟩, .slice none 0 0)) W1 := by rw [insP_len ps j hj]; exact hS8
     have h7ob : Aside0 (W1.heap[ob]? = some (.cells #[.slice (some ⟨g3, 0, none⟩) (insP ps j (⟨key, []⟩, .slice none 0 0)).length cap3] 31 (0, 0))) := .mk (by rw [insP_len ps j hj]; exact hob8)
     have hS7 := Aside0.mk hS8
     have hp7 := Aside0.mk (insP_get ps j hj (⟨key, []⟩, .slice none 0 0))
     have hz7 := Aside0.mk (hS8.cell j _ hp7.out).2
     have hv7 := Aside0.mk (hv.out W1 hF8)
     have hF7 := Aside0.mk hF8
     have hB7 := Aside0.mk (Sv.below hF8 hszB.out)
     have hBs7 : Aside0 (B ≤ W1.heap.size) := .mk (Nat.le_trans hszB.out hF8.size)
     have hC8 : Aside0 (Kd.string.C W1.drew none ([] : List ByteArray).length []) := .mk ⟨rfl, by simp, fun h => absurd h (by simp)⟩
     have hl8 : Aside0 (([] : List ByteArray).length ≤ 1000000) := .mk (by simp)
     have hE7 : Aside0 (∀ u, ((insP ps j (⟨key, []⟩, .slice none 0 0)).set j (⟨key, [] ++ vals⟩, u)).map (·.1) = putH (ps.map (·.1)) key vals false) := .mk (fun u => by
      rw [insP_reset ps j hj, insP_fst, put_new hbl.out hnk.out]
      unfold insH
      rw [hbl.out]
      rfl)
     clear hS8 hF8 hob8
     have h7oL := h7ob
     rw [insP_len ps j hj] at h7ob
     have cobT := cell_of h7ob.out
     have zT := hz7.out
     replace h7ob := Aside0.mk h7ob.out
     refine wp_region_noPanic ?_
     refine wp_region_held_drew (S := fun w' => w'.cell? ⟨ob, 0, none⟩ = some (.slice (some ⟨g3, 0, none⟩) (ps.length + 1) cap3)) (by kernel_rfl) cobT (fun hHeld => ?_)
     refine tk 0 ?_
     refine tk 1 ?_
     refine tk 3 ?_
     refine tk 4 ?_
     refine tk 5 ?_
     refine tk 6 ?_
     refine tk 9 ?_
     refine wpAnyH_ready (rs := [2, 7]) (by kernel_rfl) (by simp) ?_
     refine AllReadyH.cons rfl (fun K hK => ?_) (AllReadyH.cons rfl (fun K hK => ?_) AllReadyH.nil)
     go_simp
     refine hK.out _ _ (cell_of_alloc cobT) (fun hHeld => ?_)
     clear hK K
     skip
     have zA : (W1.alloc (.cells #[] 9)).cell? ⟨g3, j * 2 + 1, none⟩ = some (.slice none ([] : List ByteArray).length 0) := cell_of_alloc zT
     try simp only [List.length_nil] at zA
     refine rd1 7 (fun K hK => ?_)
     go_simp
     rotate_left 1
     go_simp
     refine hK.out _ _ cobT (fun hHeld => ?_)
     clear hK K
     skip
     refine rd1 2 (fun K hK => ?_)
     go_simp
     all_goals
      refine hK.out _ _ (cell_of_alloc cobT) (fun hHeld => ?_)
      clear hK K
      skip
      refine rd1 8 (fun K hK => ?_)
      refine append_copy_step (W := W1.drew) (by rfl) (.tmp 61) (.tmp 66) rfl [] none 0 rfl rfl hC8.out hl8.out ?_
      intro v1 u4 hR4 hb4
      have hb4' : Below W1.heap.size W1 u4 := ⟨hb4.os, hb4.tape, hb4.output, hb4.size, hb4.block⟩
      have cob4 := cell_of (heap_below hb4' h7ob.out)
      refine hK.out _ _ cob4 (fun hHeld => ?_)
      clear hK K
      try simp only [Act.put, List.setIfInBounds_toArray, List.set_cons_zero, List.set_cons_succ]
      refine rd1 10 (fun K hK => ?_)
      refine Kd.R_append_rows_step Kd.string (w0 := u4) W1.heap.size (by rfl) (.tmp 67) (.tmp 68) 67 9 (.string ⟨#[]⟩) 16 rfl Tryz.underlying67 inf9 rfl (by decide) (by omega) v1 ([] : List ByteArray) vals Av vals.length cv (fun _ => True) (fun _ => False) rfl rfl hR4 (Kd.C_below hv7.out hb4') (fun _ _ h => h) (fun _ hk => hk.elim) (fun _ _ => trivial) (Below.refl _ _) hb4'.size (by have := hl8.out; (try simp only [List.length_nil] at this ⊢); omega) ?_
      intro v2 u5 hR5 hb5 _ _
      have hb5' : Below W1.heap.size W1 u5 := hb4'.trans hb5
      have cob5 := cell_of (heap_below hb5' h7ob.out)
      refine hK.out _ _ cob5 (fun hHeld => ?_)
      clear hK K
      try simp only [Act.put, List.setIfInBounds_toArray, List.set_cons_zero, List.set_cons_succ]
      obtain ⟨A2, k2, rfl⟩ := Kd.R_slice hR5
      generalize hnA : ([] ++ vals).length = nA at *
      replace hnA := Aside0.mk hnA
      have hS5 := hS7.out.calm hb5'
      obtain ⟨_, x1⟩ := hS5.cell_ex j (by first | omega | (simp [insP]; omega))
      obtain ⟨_, y1⟩ := hS5.free j
      have cob6 := cell_of (heap_far (heap_below hb5' h7ob.out) hne7.out (p := ⟨g3, j * 2 + 1, none⟩) (.slice A2 nA k2))
      have hend := put_end (w := wr) hS7.out hp7.out h7oL.out hB7.out hBs7.out hb5' hR5 hE7.out hF7.out hsv.out
      replace hend := Aside0.mk hend; replace hR4 := Aside0.mk hR4; replace hR5 := Aside0.mk hR5; replace hS5 := Aside0.mk hS5; replace hb4 := Aside0.mk hb4; replace hb4' := Aside0.mk hb4'; replace hb5' := Aside0.mk hb5'; replace hb5 := Aside0.mk hb5
      refine tk 11 ?_
      refine tk 12 ?_
      refine rd1 13 (fun K hK => ?_)
      go_simp
      refine hK.out _ _ cob6 (fun hHeld => ?_)
      clear hK K
      skip
      refine wpAnyH_done (by kernel_rfl) ?_ _
      refine NoPanic.normal ?_
      refine bodyPost_end (results_none rfl _ _ _) rfl ?_
      exact ⟨rfl, hend.out⟩
   ·have hbl2 := hbl.out
    rcases hexit with h0 | ⟨p, hjl, hp, hk⟩
    rotate_left 1
    obtain ⟨g3, cap3, eO, hcO, _⟩ := hO.out.form (by omega)
    injection eO with eO _ eO'
    subst eO eO'
    obtain ⟨z0, z1⟩ := hO.out.cell j p hp
    have q1 : (j : Int) < (ps.length : Int) := by omega
    have q5 : ((j : Int) == (ps.length : Int)) = false := by simp; omega
    have hk2 := hk
    unfold kLt at hk
    replace hbl2 := Aside0.mk hbl2
    by_cases hke : p.1.f0 = key
    ·have q6 : (p.1.f0.toList == key.toList) = true := by rw [hke]; simp
     obtain ⟨A8, c8, e8⟩ := Kd.R_slice (hO.out.inn p (List.mem_of_getElem? hp))
     have x0 := z0
     have x1 := z1
     rw [e8] at x1
     obtain ⟨y0, y1⟩ := hO.out.free j
     have hneO : Aside0 (ob ≠ g3) := .mk (fun e => hO.out.ne hob.out (by decide) g3 rfl e.symm)
     have hne7 := hneO
     have hsv : Aside0 (Sv B ob wr g3 ∨ wr.heap.size ≤ g3) := .mk (.inl ⟨own_base hO.out.own g3 rfl, .inr (by obtain ⟨cells, hc⟩ := own_typed hO.out.own g3 rfl; exact ⟨_, _, hc⟩)⟩)
     have hrd : Aside0 (Kd.string.C wr A8 p.1.f1.length p.1.f1) := .mk (by
      obtain ⟨A1, k1, e1, l1, r1⟩ := Kd.R_reads (hO.out.inn p (List.mem_of_getElem? hp))
      rw [e8] at e1
      injection e1 with e1 _ _
      subst e1
      exact r1)
     replace e8 := Aside0.mk e8
     replace hke := Aside0.mk hke
     clear z0 z1
     go_wp2_with fail
     have hS7 := hO
     have h7ob := hob
     have h7oL := hob
     have hp7 := Aside0.mk hp
     have hz7 := Aside0.mk x1
     have hv7 := Aside0.mk (hv.out wr (Fr.refl _ _))
     have hB7 := Aside0.mk (Below.refl B wr)
     have hF7 := Aside0.mk (Fr.refl (Sv B ob wr) wr)
     have hBs7 := hszB
     have hl8 : Aside0 (p.1.f1.length ≤ 1000000) := .mk (by have := hl.out p (List.mem_of_getElem? hp); omega)
     have hC8 : Aside0 (Kd.string.C wr.drew A8 p.1.f1.length p.1.f1) := .mk hrd.out
     have hE7 : Aside0 (∀ u, (ps.set j (⟨p.1.f0, p.1.f1 ++ vals⟩, u)).map (·.1) = putH (ps.map (·.1)) key vals true) := .mk (fun u => by
      rw [put_old hbl.out (by rw [List.getElem?_map, hp]; rfl) hke.out, List.map_set, hke.out]
      rfl)
     have cobT := cell_of h7ob.out
     have zT := hz7.out
     replace h7ob := Aside0.mk h7ob.out
     refine wp_region_noPanic ?_
     refine wp_region_held_drew (S := fun w' => w'.cell? ⟨ob, 0, none⟩ = some (.slice (some ⟨g3, 0, none⟩) ps.length c3)) (by kernel_rfl) cobT (fun hHeld => ?_)
     refine tk 0 ?_
     refine tk 1 ?_
     refine tk 3 ?_
     refine tk 4 ?_
     refine tk 5 ?_
     refine tk 6 ?_
     refine tk 9 ?_
     refine wpAnyH_ready (rs := [2, 7]) (by kernel_rfl) (by simp) ?_
     refine AllReadyH.cons rfl (fun K hK => ?_) (AllReadyH.cons rfl (fun K hK => ?_) AllReadyH.nil)
     go_simp
     refine hK.out _ _ (cell_of_alloc cobT) (fun hHeld => ?_)
     clear hK K
     skip
     have zA : (wr.alloc (.cells #[] 9)).cell? ⟨g3, j * 2 + 1, none⟩ = some (.slice A8 (p.1.f1 : List ByteArray).length c8) := cell_of_alloc zT
     try simp only [List.length_nil] at zA
     refine rd1 7 (fun K hK => ?_)
     go_simp
     rotate_left 1
     go_simp
     refine hK.out _ _ cobT (fun hHeld => ?_)
     clear hK K
     skip
     refine rd1 2 (fun K hK => ?_)
     go_simp
     all_goals
      refine hK.out _ _ (cell_of_alloc cobT) (fun hHeld => ?_)
      clear hK K
      skip
      refine rd1 8 (fun K hK => ?_)
      refine append_copy_step (W := wr.drew) (by rfl) (.tmp 61) (.tmp 66) rfl p.1.f1 A8 c8 rfl rfl hC8.out hl8.out ?_
      intro v1 u4 hR4 hb4
      have hb4' : Below wr.heap.size wr u4 := ⟨hb4.os, hb4.tape, hb4.output, hb4.size, hb4.block⟩
      have cob4 := cell_of (heap_below hb4' h7ob.out)
      refine hK.out _ _ cob4 (fun hHeld => ?_)
      clear hK K
      try simp only [Act.put, List.setIfInBounds_toArray, List.set_cons_zero, List.set_cons_succ]
      refine rd1 10 (fun K hK => ?_)
      refine Kd.R_append_rows_step Kd.string (w0 := u4) wr.heap.size (by rfl) (.tmp 67) (.tmp 68) 67 9 (.string ⟨#[]⟩) 16 rfl Tryz.underlying67 inf9 rfl (by decide) (by omega) v1 (p.1.f1 : List ByteArray) vals Av vals.length cv (fun _ => True) (fun _ => False) rfl rfl hR4 (Kd.C_below hv7.out hb4') (fun _ _ h => h) (fun _ hk => hk.elim) (fun _ _ => trivial) (Below.refl _ _) hb4'.size (by have := hl8.out; (try simp only [List.length_nil] at this ⊢); omega) ?_
      intro v2 u5 hR5 hb5 _ _
      have hb5' : Below wr.heap.size wr u5 := hb4'.trans hb5
      have cob5 := cell_of (heap_below hb5' h7ob.out)
      refine hK.out _ _ cob5 (fun hHeld => ?_)
      clear hK K
      try simp only [Act.put, List.setIfInBounds_toArray, List.set_cons_zero, List.set_cons_succ]
      obtain ⟨A2, k2, rfl⟩ := Kd.R_slice hR5
      generalize hnA : (p.1.f1 ++ vals).length = nA at *
      replace hnA := Aside0.mk hnA
      have hS5 := hS7.out.calm hb5'
      obtain ⟨_, x1⟩ := hS5.cell_ex j (by first | omega | (simp [insP]; omega))
      obtain ⟨_, y1⟩ := hS5.free j
      have cob6 := cell_of (heap_far (heap_below hb5' h7ob.out) hne7.out (p := ⟨g3, j * 2 + 1, none⟩) (.slice A2 nA k2))
      have hend := put_end (w := wr) hS7.out hp7.out h7oL.out hB7.out hBs7.out hb5' hR5 hE7.out hF7.out hsv.out
      replace hend := Aside0.mk hend; replace hR4 := Aside0.mk hR4; replace hR5 := Aside0.mk hR5; replace hS5 := Aside0.mk hS5; replace hb4 := Aside0.mk hb4; replace hb4' := Aside0.mk hb4'; replace hb5' := Aside0.mk hb5'; replace hb5 := Aside0.mk hb5
      refine tk 11 ?_
      refine tk 12 ?_
      refine rd1 13 (fun K hK => ?_)
      go_simp
      refine hK.out _ _ cob6 (fun hHeld => ?_)
      clear hK K
      skip
      refine wpAnyH_done (by kernel_rfl) ?_ _
      refine NoPanic.normal ?_
      refine bodyPost_end (results_none rfl _ _ _) rfl ?_
      exact ⟨rfl, hend.out⟩
    have q7 : (j : Int) < (ps.length : Int) + 1 := by omega
    have hnk : Aside0 (∀ a, (ps.map (·.1))[j]? = some a → a.f0 ≠ key) := .mk (fun a ha => by
     rw [List.getElem?_map, hp] at ha
     obtain rfl := Option.some.inj ha
     exact hke)
    have q6 : (p.1.f0.toList == key.toList) = false := by rw [beq_eq_false_iff_ne]; exact fun e => hke (toList_inj e)
    clear z1
    rotate_left 1
    have q1 : ¬ ((j : Int) < (ps.length : Int)) := by omega
    have q4 : (ps.length : Int) ≤ (j : Int) := by omega
    have q5 : ((j : Int) == (ps.length : Int)) = true := by simp; omega
    have q7 : (j : Int) < (ps.length : Int) + 1 := by omega
    have hnk : Aside0 (∀ a, (ps.map (·.1))[j]? = some a → a.f0 ≠ key) := .mk (fun a ha => by have := (List.getElem?_eq_some_iff.1 ha).1; rw [List.length_map] at this; omega)
    replace h0 := Aside0.mk h0
    clear hbl2
    all_goals
     go_wp2_with ((with_reducible refine gate_builtin (b := .append) (xs := #[.tmp 36, .tmp 38]) rfl ?_); at_builtin; refine print_append_cells (w0 := wr) B rfl (.tmp 36) (.tmp 38) 31 73 (.agg #[.string ⟨#[]⟩, .slice none 0 0]) 2 40 rfl Tryz.underlying31 inf73 rfl (by decide) (by decide) _ ps.length (flat ps) [.string ⟨#[]⟩, .slice none 0 0] rfl rfl rfl (by intro u hu; simp at hu; rcases hu with rfl | rfl <;> rfl) hO.out.own (Below.refl _ _) hszB.out (by omega) ?_; intro v1 w3 ho1 hb1 hg1 hat1; have hS1 := hO.out.pushed hg1 ho1; obtain ⟨g3, cap3, e3, hc3', hcm'⟩ := hS1.form (by simp); rw [List.length_append] at e3 hc3'; subst e3; simp only [List.length_cons, List.length_nil, Nat.zero_add] at hc3'; have hge3 := Aside0.mk (own_base hS1.own g3 rfl); have hsv := Aside0.mk (sv_of (ob := ob) hO.out hg1 hS1 (g := g3) rfl); have hob3 := (hg1.block ob (lt_of hob.out) (fun e => hO.out.ne hob.out (by decide) ob e.symm rfl)).trans hob.out; have cob := cell_of hob3; have fob := free_of hob3 0; have hne3 : Aside0 (¬ g3 = ob) := .mk (hS1.ne hob3 (by decide) g3 rfl); have hfr3 := Aside0.mk (fr_grow (ob := ob) hO.out hg1); replace hob3 := Aside0.mk hob3; replace hS1 := Aside0.mk hS1; clear ho1 hb1 hg1 hat1)
     have hob4 := heap_set hob3.out 0 (.slice (some ⟨g3, 0, none⟩) (ps.length + 1) cap3)
     simp only [List.setIfInBounds_toArray, List.set_cons_zero] at hob4
     have hfo : Fr (· = ob) w3 (w3.setCell ⟨ob, 0, none⟩ (.slice (some ⟨g3, 0, none⟩) (ps.length + 1) cap3)) := (Fr.refl (· = ob) w3).setCell (p := ⟨ob, 0, none⟩) (.inl rfl) _
     have hS4 := hS1.out.other hob3.out (by decide) hfo
     have hF4 := hfr3.out.setCell (p := ⟨ob, 0, none⟩) (.inl ⟨hBo, .inl rfl⟩) (.slice (some ⟨g3, 0, none⟩) (ps.length + 1) cap3)
     clear hfo cob fob hob3 hS1 hfr3
     generalize w3.setCell ⟨ob, 0, none⟩ (.slice (some ⟨g3, 0, none⟩) (ps.length + 1) cap3) = w4 at *
     have cob4 := cell_of hob4
     have hcut1 := fun W => cut31 g3 (ps.length + 1) cap3 (j + 1) (by omega) ((j : Int) + 1) (by omega) W
     have hcut2 := fun W => cut31 g3 (ps.length + 1) cap3 j (by omega) (j : Int) rfl W
     obtain ⟨dA, hdA⟩ : ∃ d : Option Addr, d = (if cap3 = j + 1 then some ⟨g3, 0, none⟩ else some ⟨g3, (j + 1) * 2, none⟩) := ⟨_, rfl⟩
     obtain ⟨dB, hdB⟩ : ∃ d : Option Addr, d = (if cap3 = j then some ⟨g3, 0, none⟩ else some ⟨g3, j * 2, none⟩) := ⟨_, rfl⟩
     rw [← hdA] at hcut1
     rw [← hdB] at hcut2
     replace hdA := Aside0.mk hdA; replace hdB := Aside0.mk hdB; replace hS4 := Aside0.mk hS4; replace hF4 := Aside0.mk hF4; replace hob4 := Aside0.mk hob4
     go_still_tail 7, (by kernel_rfl)
     change wpList _ _ _ _ _ w4.drew
     obtain ⟨cur, hcur, hcl, hct⟩ := hS4.out.cells (by simp)
     have hS4d : SO B (.slice (some ⟨g3, 0, none⟩) (ps.length + 1) cap3) (ps ++ [pz]) w4.drew := ⟨hS4.out.own, hS4.out.inn⟩
     have hct' : cur.take ((ps.length + 1) * 2) = flat (ps ++ [pz]) := by simpa using hct
     have hfl := flat_len (ps.drop j)
     rw [List.length_drop] at hfl
     refine copyS rfl (.tmp 43) (.tmp 46) 31 31 rfl 73 2 (by omega) Tryz.underlying31 (by obtain ⟨k, hk, hz⟩ := Option.map_eq_some_iff.1 inf73; simp only [Prod.mk.injEq] at hz; simp [hk, hz]) dA dB (ps.length - j) (cap3 - (j + 1)) (ps.length + 1 - j) (cap3 - j) rfl rfl g3 ((j + 1) * 2) (ps.length - j) cur 73 hcur (flat (ps.drop j)) (by show _ = min _ _; omega) hfl (fun hp => ?_) (fun hp => by omega) (flat_one _ (fun q hq => hO.out.one q (List.mem_of_mem_drop hq))) ?_
     ·refine ⟨hdA.out.trans (if_neg (by omega)), ⟨g3, j * 2, none⟩, hdB.out.trans (if_neg (by omega)), fun i v hi => ?_⟩
      rw [flat_drop ps j hj, List.getElem?_drop] at hi
      have h1 : (flat (ps ++ [pz]))[j * 2 + i]? = some v := by
       rw [flat_app, List.getElem?_append_left (List.getElem?_eq_some_iff.1 hi).1]; exact hi
      rw [← hct', List.getElem?_take] at h1
      split at h1
      ·rw [plain_add]
       show World.cell? w4 _ = _
       rw [cell_at hcur, List.getElem?_toArray]; exact h1
      ·cases h1
     intro w5 h5 hf5 hz5
     have hS5 := hS4d.moved hj hcur h5 hf5
     have hfz : Fr (· = g3) w4 w5 := ⟨hf5.os, hf5.tape, hf5.output, hf5.size, hf5.block⟩
     have hF5 : Aside0 (Fr (Sv B ob wr) wr w5) := .mk ⟨hfz.os.trans hF4.out.os, hfz.tape.trans hF4.out.tape, hfz.output.trans hF4.out.output, Nat.le_trans hF4.out.size hfz.size, fun k hk hn => (hfz.block k (Nat.lt_of_lt_of_le hk hF4.out.size) (fun e => by subst e; rcases hsv.out with h | h; exact hn h; omega)).trans (hF4.out.block k hk hn)⟩
     have hob5 := hfz.heap hob4.out (fun e => hne3.out e.symm)
     have cob5 := cell_of hob5
     have hlj : j < ((ps ++ [pz]).take (j + 1) ++ ps.drop j).length := by simp; omega
     obtain ⟨x0, x1⟩ := hS5.cell_ex j hlj
     obtain ⟨y0, y1⟩ := hS5.free j
     have hlen' : ((ps ++ [pz]).take (j + 1) ++ ps.drop j).length = ps.length + 1 := by simp; omega
     have hS6 := (show SO B (.slice (some ⟨g3, 0, none⟩) ((ps ++ [pz]).take (j + 1) ++ ps.drop j).length cap3) ((ps ++ [pz]).take (j + 1) ++ ps.drop j) w5 by rw [hlen']; exact hS5).setH j hlj key (.slice none 0 0) [] (Kd.R_nil _ _ _ _ _)
     rw [hlen', insP_set ps j hj] at hS6
     have hne7 : Aside0 (ob ≠ g3) := .mk (fun e => hne3.out e.symm)
     have hF6 := (hF5.out.setCell (p := ⟨g3, j * 2, none⟩) hsv.out (.string key)).setCell (p := ⟨g3, j * 2 + 1, none⟩) hsv.out (.slice none 0 0)
     have hob6 := heap_far (heap_far hob5 (p := ⟨g3, j * 2, none⟩) hne7.out (.string key)) (p := ⟨g3, j * 2 + 1, none⟩) hne7.out (.slice none 0 0)
     replace hS6 := Aside0.mk hS6; replace hF6 := Aside0.mk hF6; replace hob6 := Aside0.mk hob6; replace hob5 := Aside0.mk hob5
     clear hz5 hcut1 hcut2 hcur hcl hct hct' hfl h5 hf5 hfz hS4d hS4 hF4 hS5 hF5 hlen' cob4 hob4
     have cob6 := cell_of hob6.out
     obtain ⟨x6', x6⟩ := hS6.out.cell_ex j (by rw [insP_len ps j hj]; omega)
     have y6 := (hS6.out.free j).2
     go_wp2_with fail
     replace hS6 := hS6.out; replace hF6 := hF6.out; replace hob6 := hob6.out
     have hS8 := hS6
     have hF8 := hF6
     have hob8 := hob6
     clear hS6 hF6 hob6
     generalize ((w5.setCell ⟨g3, j * 2, none⟩ (.string key)).setCell ⟨g3, j * 2 + 1, none⟩ (.slice none 0 0)) = W1 at *
     clear x0 x1 y0 y1 x6 x6' y6 cob6 cob5 hob5
     replace hS8 : SO B (.slice (some ⟨g3, 0, none⟩) (insP ps j (⟨key, []⟩, .slice none 0 0)).length cap3) (insP ps j (⟨key, []⟩, .slice none 0 0)) W1 := by rw [insP_len ps j hj]; exact hS8
     have h7ob : Aside0 (W1.heap[ob]? = some (.cells #[.slice (some ⟨g3, 0, none⟩) (insP ps j (⟨key, []⟩, .slice none 0 0)).length cap3] 31 (0, 0))) := .mk (by rw [insP_len ps j hj]; exact hob8)
     have hS7 := Aside0.mk hS8
     have hp7 := Aside0.mk (insP_get ps j hj (⟨key, []⟩, .slice none 0 0))
     have hz7 := Aside0.mk (hS8.cell j _ hp7.out).2
     have hv7 := Aside0.mk (hv.out W1 hF8)
     have hF7 := Aside0.mk hF8
     have hB7 := Aside0.mk (Sv.below hF8 hszB.out)
     have hBs7 : Aside0 (B ≤ W1.heap.size) := .mk (Nat.le_trans hszB.out hF8.size)
     have hC8 : Aside0 (Kd.string.C W1.drew none ([] : List ByteArray).length []) := .mk ⟨rfl, by simp, fun h => absurd h (by simp)⟩
     have hl8 : Aside0 (([] : List ByteArray).length ≤ 1000000) := .mk (by simp)
     have hE7 : Aside0 (∀ u, ((insP ps j (⟨key, []⟩, .slice none 0 0)).set j (⟨key, [] ++ vals⟩, u)).map (·.1) = putH (ps.map (·.1)) key vals true) := .mk (fun u => by
      rw [insP_reset ps j hj, insP_fst, put_new hbl.out hnk.out]
      unfold insH
      rw [hbl.out]
      rfl)
     clear hS8 hF8 hob8
     have h7oL := h7ob
     rw [insP_len ps j hj] at h7ob
     have cobT := cell_of h7ob.out
     have zT := hz7.out
     replace h7ob := Aside0.mk h7ob.out
     refine wp_region_noPanic ?_
     refine wp_region_held_drew (S := fun w' => w'.cell? ⟨ob, 0, none⟩ = some (.slice (some ⟨g3, 0, none⟩) (ps.length + 1) cap3)) (by kernel_rfl) cobT (fun hHeld => ?_)
     refine tk 0 ?_
     refine tk 1 ?_
     refine tk 3 ?_
     refine tk 4 ?_
     refine tk 5 ?_
     refine tk 6 ?_
     refine tk 9 ?_
     refine wpAnyH_ready (rs := [2, 7]) (by kernel_rfl) (by simp) ?_
     refine AllReadyH.cons rfl (fun K hK => ?_) (AllReadyH.cons rfl (fun K hK => ?_) AllReadyH.nil)
     go_simp
     refine hK.out _ _ (cell_of_alloc cobT) (fun hHeld => ?_)
     clear hK K
     skip
     have zA : (W1.alloc (.cells #[] 9)).cell? ⟨g3, j * 2 + 1, none⟩ = some (.slice none ([] : List ByteArray).length 0) := cell_of_alloc zT
     try simp only [List.length_nil] at zA
     refine rd1 7 (fun K hK => ?_)
     go_simp
     rotate_left 1
     go_simp
     refine hK.out _ _ cobT (fun hHeld => ?_)
     clear hK K
     skip
     refine rd1 2 (fun K hK => ?_)
     go_simp
     all_goals
      refine hK.out _ _ (cell_of_alloc cobT) (fun hHeld => ?_)
      clear hK K
      skip
      refine rd1 8 (fun K hK => ?_)
      refine append_copy_step (W := W1.drew) (by rfl) (.tmp 61) (.tmp 66) rfl [] none 0 rfl rfl hC8.out hl8.out ?_
      intro v1 u4 hR4 hb4
      have hb4' : Below W1.heap.size W1 u4 := ⟨hb4.os, hb4.tape, hb4.output, hb4.size, hb4.block⟩
      have cob4 := cell_of (heap_below hb4' h7ob.out)
      refine hK.out _ _ cob4 (fun hHeld => ?_)
      clear hK K
      try simp only [Act.put, List.setIfInBounds_toArray, List.set_cons_zero, List.set_cons_succ]
      refine rd1 10 (fun K hK => ?_)
      refine Kd.R_append_rows_step Kd.string (w0 := u4) W1.heap.size (by rfl) (.tmp 67) (.tmp 68) 67 9 (.string ⟨#[]⟩) 16 rfl Tryz.underlying67 inf9 rfl (by decide) (by omega) v1 ([] : List ByteArray) vals Av vals.length cv (fun _ => True) (fun _ => False) rfl rfl hR4 (Kd.C_below hv7.out hb4') (fun _ _ h => h) (fun _ hk => hk.elim) (fun _ _ => trivial) (Below.refl _ _) hb4'.size (by have := hl8.out; (try simp only [List.length_nil] at this ⊢); omega) ?_
      intro v2 u5 hR5 hb5 _ _
      have hb5' : Below W1.heap.size W1 u5 := hb4'.trans hb5
      have cob5 := cell_of (heap_below hb5' h7ob.out)
      refine hK.out _ _ cob5 (fun hHeld => ?_)
      clear hK K
      try simp only [Act.put, List.setIfInBounds_toArray, List.set_cons_zero, List.set_cons_succ]
      obtain ⟨A2, k2, rfl⟩ := Kd.R_slice hR5
      generalize hnA : ([] ++ vals).length = nA at *
      replace hnA := Aside0.mk hnA
      have hS5 := hS7.out.calm hb5'
      obtain ⟨_, x1⟩ := hS5.cell_ex j (by first | omega | (simp [insP]; omega))
      obtain ⟨_, y1⟩ := hS5.free j
      have cob6 := cell_of (heap_far (heap_below hb5' h7ob.out) hne7.out (p := ⟨g3, j * 2 + 1, none⟩) (.slice A2 nA k2))
      have hend := put_end (w := wr) hS7.out hp7.out h7oL.out hB7.out hBs7.out hb5' hR5 hE7.out hF7.out hsv.out
      replace hend := Aside0.mk hend; replace hR4 := Aside0.mk hR4; replace hR5 := Aside0.mk hR5; replace hS5 := Aside0.mk hS5; replace hb4 := Aside0.mk hb4; replace hb4' := Aside0.mk hb4'; replace hb5' := Aside0.mk hb5'; replace hb5 := Aside0.mk hb5
      refine tk 11 ?_
      refine tk 12 ?_
      refine rd1 13 (fun K hK => ?_)
      go_simp
      refine hK.out _ _ cob6 (fun hHeld => ?_)
      clear hK K
      skip
      refine wpAnyH_done (by kernel_rfl) ?_ _
      refine NoPanic.normal ?_
      refine bodyPost_end (results_none rfl _ _ _) rfl ?_
      exact ⟨rfl, hend.out⟩
end HH
end Go.Proofs.YtclmjmfcggkpaaaGreatDoor
