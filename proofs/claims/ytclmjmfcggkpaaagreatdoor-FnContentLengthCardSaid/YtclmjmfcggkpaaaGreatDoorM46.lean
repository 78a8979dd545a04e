import Derived.Test.YtclmjmfcggkpaaaGreatDoorM34
import Derived.Test.YtclmjmfcggkpaaaGreatDoorM45
set_option linter.unusedVariables false
set_option linter.unusedSimpArgs false
namespace Go.Proofs.YtclmjmfcggkpaaaGreatDoor
open Go.RowKit Go.Proofs.YtclmjmfcggkpaaaGreatDoorW.PrintWords Go.Proofs.YtclmjmfcggkpaaaGreatDoorW.PrintLast Go.Proofs.YtclmjmfcggkpaaaGreatDoorW.PrintMore
open PX
namespace HH
open H
/-! ### spec.HeadersOf: headers that were there -/
def putB (L : List S73) (h : S73) : List S73 := putH L h.f0 h.f1 false
theorem fold_take {α β : Type} (f : β → α → β) (b : β) {l : List α} {k : Nat} {a : α} (h : l[k]? = some a) : (l.take (k + 1)).foldl f b = f ((l.take k).foldl f b) a := by
  have hl := (List.getElem?_eq_some_iff.1 h).1
  rw [List.take_succ_eq_append_getElem hl, (List.getElem?_eq_some_iff.1 h).2, List.foldl_append]
  rfl
theorem insH_len (L : List S73) (x : S73) : (insH L x).length = L.length + 1 := by
  induction L with
  | nil => simp [insH, below]
  | cons a L ih =>
    rw [insH_cons]
    split
    · simp [ih]
    · simp
theorem putH_len (L : List S73) (k : ByteArray) (vs : List ByteArray) (add : Bool) : (putH L k vs add).length ≤ L.length + 1 := by
  unfold putH
  split
  · split
    · simp
    · rw [insH_len]; exact Nat.le_refl _
  · rw [insH_len]; exact Nat.le_refl _
theorem putH_val {L : List S73} {k : ByteArray} {vs : List ByteArray} {add : Bool} {N : Nat} (h : ∀ a ∈ L, a.f1.length ≤ N) : ∀ a ∈ putH L k vs add, a.f1.length ≤ N + vs.length := by
  intro a ha
  unfold putH at ha
  split at ha
  · rename_i b hb
    split at ha
    · rcases List.mem_or_eq_of_mem_set ha with ha | rfl
      · have := h a ha; omega
      · have := h b (List.mem_of_getElem? hb)
        cases add <;> simp <;> omega
    · rcases insH_mem.1 ha with rfl | ha
      · simp
      · have := h a ha; omega
  · rcases insH_mem.1 ha with rfl | ha
    · simp
    · have := h a ha; omega
structure Ok3 (L : List S73) (n N : Nat) : Prop where
  s : srt L
  n : L.length ≤ n
  v : ∀ a ∈ L, a.f1.length ≤ N
theorem Ok3.put {L : List S73} {n N : Nat} (h : Ok3 L n N) (k : ByteArray) (vs : List ByteArray) (add : Bool) : Ok3 (putH L k vs add) (n + 1) (N + vs.length) :=
  ⟨putH_srt h.s, Nat.le_trans (putH_len _ _ _ _) (Nat.add_le_add_right h.n 1), putH_val h.v⟩
theorem Ok3.mono {L : List S73} {n N n' N' : Nat} (h : Ok3 L n N) (h1 : n ≤ n') (h2 : N ≤ N') : Ok3 L n' N' := ⟨h.s, Nat.le_trans h.n h1, fun a ha => Nat.le_trans (h.v a ha) h2⟩
theorem ok3_bef (bef : List S73) (hbl : ∀ h ∈ bef, h.f1.length ≤ 100) : ∀ k, k ≤ bef.length → Ok3 ((bef.take k).foldl putB []) k (k * 100) := by
  intro k
  induction k with
  | zero => intro _; exact ⟨List.Pairwise.nil, Nat.le_refl _, fun _ h => by cases h⟩
  | succ k ih =>
    intro hk
    rw [fold_take putB [] (List.getElem?_eq_getElem (show k < bef.length by omega))]
    exact ((ih (by omega)).put _ _ _).mono (Nat.le_refl _) (by have := hbl bef[k] (List.getElem_mem _); omega)
theorem row73_new (w : World) : SO w.heap.size (.slice (some ⟨w.heap.size, 0, none⟩) 0 0) [] (w.alloc (.cells #[] 73)) := by
  refine ⟨?_, fun _ h => by cases h⟩
  have h2 := World.ownsRow_lit (base := w.heap.size) (e := 73) (size := 2) w #[] 0 (Nat.le_refl _) (by simp [maxLen]) (by simp)
  simpa [flat] using h2
set_option maxHeartbeats 4000000 in
set_option maxRecDepth 100000 in
theorem hdrs0_call (bef : List S73) (Ab : Option Addr) (cb : Nat) (w : World)
    (hb0 : Kd.C k73 w Ab bef.length bef) (hcb : bef.length ≤ cb) (hbn : bef.length ≤ 100) (hbl : ∀ h ∈ bef, h.f1.length ≤ 100) :
    Calls Tryz.prog 26 #[.slice Ab bef.length cb, .slice none 0 0] w fun e w' => ∃ A c l, e = .returned (.slice A l.length c) ∧ l.length ≤ c ∧ Kd.C k73 w' A l.length l ∧ l = bef.foldl putB [] ∧ Below w.heap.size w w' := by
  replace hb0 := Aside0.mk hb0; replace hcb := Aside0.mk hcb; replace hbl := Aside0.mk hbl
  have hrow0 := Aside0.mk (row73_new w)
  go_enter Tryz.func26, Tryz.ntmps26
  go_wp2_with (first | ((with_reducible refine gate_dst (N := 5) rfl ?_); refine box_event ?hg (N := 5) ?hd (cs := #[.slice none 0 0]) (t := 31) ?hr ?_; (case hd => rfl); (case hg => rfl); (case hr => first | (go_simp; done) | (go_simp; rfl)); intro ob hobe w2 hbox hb2; have hz0 := cell_at hbox 0; have hy0 := free_of hbox 0; simp at hz0; replace hb2 := Aside0.mk hb2; replace hbox := Aside0.mk hbox; replace hobe := Aside0.mk hobe))
  have hob1 := heap_set hbox.out 0 (.slice (some ⟨w.heap.size, 0, none⟩) 0 0)
  simp only [List.setIfInBounds_toArray, List.set_cons_zero] at hob1
  have hszw : (w.alloc (.cells #[] 73)).heap.size = w.heap.size + 1 := World.size_alloc _ _
  have hob' : Aside0 (w.heap.size ≤ ob) := .mk (by rw [hobe.out, hszw]; omega)
  have hB1 := ((below_alloc (Below.refl w.heap.size w) (.cells #[] 73)).trans ⟨hb2.out.os, hb2.out.tape, hb2.out.output, hb2.out.size, fun k hk => hb2.out.block k (by rw [hszw]; omega)⟩).setCell (p := ⟨ob, 0, none⟩) hob'.out (.slice (some ⟨w.heap.size, 0, none⟩) 0 0)
  have hS1 := (hrow0.out.calm hb2.out).other (w' := w2.setCell ⟨ob, 0, none⟩ (.slice (some ⟨w.heap.size, 0, none⟩) 0 0)) hbox.out (by decide) ((Fr.refl (· = ob) w2).setCell (p := ⟨ob, 0, none⟩) (.inl rfl) _)
  generalize w2.setCell ⟨ob, 0, none⟩ (.slice (some ⟨w.heap.size, 0, none⟩) 0 0) = W0 at *
  replace hob1 := Aside0.mk hob1; replace hB1 := Aside0.mk hB1; replace hS1 := Aside0.mk hS1
  clear hy0 hz0 hb2 hbox hobe hrow0 hszw
  go_loopg [15] bef.length (fun g v15 w' => ∃ (k : Nat) (v : Value) (ps : List (S73 × Value)), k ≤ bef.length ∧ v15 = .int .i64 k ∧ Aside0 (g = bef.length - k) ∧ Aside0 (w'.heap[ob]? = some (.cells #[v] 31 (0, 0))) ∧ Aside0 (SO w.heap.size v ps w') ∧ Aside0 (ps.map (·.1) = (bef.take k).foldl putB []) ∧ Aside0 (Below w.heap.size w w'))
  case atStart => exact ⟨0, _, [], Nat.zero_le _, rfl, ⟨by omega⟩, hob1, hS1, ⟨rfl⟩, hB1⟩
  case round =>
    clear hob1 hS1 hB1
    obtain ⟨k, v, ps, hk, rfl, hg, hob, hO, hT, hB⟩ := hrel
    rcases Nat.lt_or_ge k bef.length with hlt | hge
    · obtain ⟨ad, A1, c1, rfl, x0, x1, hc1, hC1⟩ := at_T73 hb0.out (k : Int) (by omega) (by omega)
      replace x0 := (hB.out.cell (World.block_lt_of_cell? w _ x0)).trans x0
      replace x1 := (hB.out.cell (World.block_lt_of_cell? w _ x1)).trans x1
      simp only [Int.toNat_natCast] at x0 x1
      have hat := rd73_at bef k hlt
      have hlen1 : (rd_T73 bef (k : Int)).f1.length ≤ 100 := hbl.out _ (List.mem_of_getElem? hat)
      obtain ⟨bk, hbk⟩ : ∃ bk, bk = rd_T73 bef (k : Int) := ⟨_, rfl⟩
      rw [← hbk] at x0 x1 hlen1 hc1 hC1 hat
      replace hat := Aside0.mk hat
      replace hbk := Aside0.mk hbk
      replace hC1 := Aside0.mk hC1
      go_wp2_with (first | ((with_reducible refine gate_dst (N := 8) rfl ?_); refine box_event ?hg (N := 8) ?hd (cs := #[.string (⟨#[]⟩ : ByteArray), .slice none 0 0]) (t := 73) ?hr ?_; (case hd => rfl); (case hg => rfl); (case hr => first | (go_simp; done) | (go_simp; rfl)); intro fb hfb w2 hbox hb2; have hz0 := cell_at hbox 0; have hz1 := cell_at hbox 1; have hy0 := free_of hbox 0; have hy1 := free_of hbox 1; simp at hz0 hz1; replace hb2 := Aside0.mk hb2; replace hbox := Aside0.mk hbox; replace hfb := Aside0.mk hfb))
      have hle : wr.heap.size ≤ fb := by rw [hfb.out]; exact Nat.le_refl _
      have hb3 := (hb2.out.setCell (p := ⟨fb, 0, none⟩) hle (.string bk.f0)).setCell (p := ⟨fb, 1, none⟩) hle (.slice A1 bk.f1.length c1)
      generalize (w2.setCell ⟨fb, 0, none⟩ (.string bk.f0)).setCell ⟨fb, 1, none⟩ (.slice A1 bk.f1.length c1) = w3 at *
      have hB3 := below_then hB.out hB.out.size hb3
      have h3 := ok3_bef bef hbl.out k hk
      rw [← hT.out] at h3
      refine (put_call w.heap.size ob v ps bk.f0 A1 c1 bk.f1 false w3 (heap_below hb3 hob.out) (hO.out.calm hb3) hob'.out h3.s (by have := h3.n; rw [List.length_map] at this; omega) (fun p hp => by have := h3.v p.1 (List.mem_map_of_mem hp); omega) (fun w' hF => Kd.C_below hC1.out (hB3.trans (Sv.below hF hB3.size))) hc1 (by omega)).mono ?_
      rintro e w4 ⟨rfl, v4, ps4, q1, q2, q3, q4, _⟩
      have hT4 : Aside0 (ps4.map (·.1) = (bef.take (k + 1)).foldl putB []) := .mk (by
        rw [fold_take putB [] hat.out, ← hT.out]
        exact q3)
      have hB4 := Aside0.mk (hB3.trans q4)
      replace q1 := Aside0.mk q1; replace q2 := Aside0.mk q2
      clear q3 q4 h3 x0 x1 hz0 hz1 hy0 hy1 hb3 hB3 hb2 hbox
      go_wp2_with fail
      go_roundg (bef.length - (k + 1))
      case rel => exact ⟨k + 1, v4, ps4, by omega, by go_num, ⟨rfl⟩, q1, q2, hT4, hB4⟩
      case measure => have := hg.out; omega
    · obtain rfl : k = bef.length := by omega
      go_wp2_with fail
      have hT1 : Aside0 (ps.map (·.1) = bef.foldl putB []) := .mk (by rw [hT.out, List.take_length])
      clear hT
      go_loopg [28] 0 (fun g v28 w' => v28 = .int .i64 0 ∧ Aside0 (w' = wr))
      case atStart => exact ⟨rfl, ⟨rfl⟩⟩
      case round =>
        obtain ⟨rfl, hw⟩ := hrel
        have hw := hw.out
        subst hw
        have cob := cell_of hob.out
        go_wp2
        go_ret
        obtain ⟨A, c, e, hc, hF⟩ := hO.out.read (by have h := (ok3_bef bef hbl.out bef.length (Nat.le_refl _)).n; rw [List.take_length, ← hT1.out, List.length_map] at h; omega)
        exact ⟨A, c, _, by simp only [e]; rfl, hc, Kd.F_now hF, hT1.out, hB.out⟩
end HH
end Go.Proofs.YtclmjmfcggkpaaaGreatDoor
