import Derived.Test.YtclmjmfcggkpaaaGreatDoorM50
set_option linter.unusedVariables false
set_option linter.unusedSimpArgs false
namespace Go.Proofs.YtclmjmfcggkpaaaGreatDoor
open Go.RowKit Go.Proofs.YtclmjmfcggkpaaaGreatDoorW.PrintWords Go.Proofs.YtclmjmfcggkpaaaGreatDoorW.PrintLast Go.Proofs.YtclmjmfcggkpaaaGreatDoorW.PrintMore
open PX
namespace HH
open H
/-! ### The law FnContentLength, walked -/
theorem six {w : World} {fb : Nat} {a b c d e f : Value} {t : TypeId} {z : Nat × Nat} (h : w.heap[fb]? = some (.cells #[a, b, c, d, e, f] t z)) :
    w.cell? ⟨fb, 0, none⟩ = some a ∧ w.cell? ⟨fb, 1, none⟩ = some b ∧ w.cell? ⟨fb, 2, none⟩ = some c ∧ w.cell? ⟨fb, 3, none⟩ = some d ∧ w.cell? ⟨fb, 4, none⟩ = some e ∧ w.cell? ⟨fb, 5, none⟩ = some f :=
  ⟨by rw [cell_at h]; rfl, by rw [cell_at h]; rfl, by rw [cell_at h]; rfl, by rw [cell_at h]; rfl, by rw [cell_at h]; rfl, by rw [cell_at h]; rfl⟩
theorem two {w : World} {fb : Nat} {a b c d e f : Value} {t : TypeId} {z : Nat × Nat} (h : w.heap[fb]? = some (.cells #[a, b, c, d, e, f] t z)) :
    w.cell? ⟨fb, 4, none⟩ = some e ∧ w.cell? ⟨fb, 5, none⟩ = some f := ⟨(six h).2.2.2.2.1, (six h).2.2.2.2.2⟩
structure En (w w' : World) (bef : List S73) (Ab : Option Addr) : Prop where
  below : Below w.heap.size w w'
  tab : Tab w'
  pow : Pow w'
  spc : Spc w'
  rb : Kd.C k73 w' Ab bef.length bef
theorem En.call {w w' w'' : World} {bef : List S73} {Ab : Option Addr} (h : En w w' bef Ab) (hb : Below w'.heap.size w' w'') : En w w'' bef Ab :=
  ⟨below_then h.below h.below.size hb, h.tab.below hb h.tab.lt, h.pow.below hb, h.spc.calm hb, Kd.C_below h.rb hb⟩
theorem En.works {w w' : World} {bef : List S73} {Ab : Option Addr} (h : En w w' bef Ab) : Calls Tryz.prog 17 #[] w' fun e w'' => e = .returned (.bool true) ∧ Below w'.heap.size w' w'' := works_call w' h.tab
def fL (n : Int) : S48 := ⟨3, ⟨#[]⟩, CL, 5, ⟨#[]⟩, n⟩
theorem noSp_CL : noSp CL := by
  have h : ∀ i : Nat, i < 14 → 33 ≤ bt CL (i : Int) ∧ bt CL (i : Int) < 127 := by decide +kernel
  intro i hi
  exact h i hi
theorem one_k48 {w : World} {b : Nat} {f : S48} {z : Nat × Nat} (h : w.heap[b]? = some (.cells #[.int .i64 f.f0, .string f.f1, .string f.f2, .int .i64 f.f3, .string f.f4, .int .i64 f.f5] 48 z)) : Kd.C k48 w (some ⟨b, 0, none⟩) [f].length [f] := by
  refine ⟨rfl, by simp, fun _ => ⟨_, rfl, fun j p hj => ?_⟩⟩
  cases j with
  | zero =>
    obtain rfl := Option.some.inj hj
    refine ⟨_, rfl, k48_mk w f, fun i u hi => ?_⟩
    rw [plain_add]
    show w.cell? ⟨b, 0 + (0 * 6 + i), none⟩ = _
    rw [cell_at h, Nat.zero_mul, Nat.zero_add, Nat.zero_add]
    simpa using hi
  | succ j => simp at hj
theorem nil_k48 (w : World) : Kd.C k48 w none ([] : List S48).length [] := ⟨rfl, by simp, fun h => absurd h (by simp)⟩
def outB (bef : List S73) : List S73 := bef.foldl putB []
def TL (bef : List S73) (n : Int) (i : Nat) : ByteArray → Option (List ByteArray) := if i = 0 then lk bef else putT (lk bef) CL (decS n) false
theorem TL_one (bef : List S73) (n : Int) (k : ByteArray) : TL bef n 1 k = if CL = k then some [decS n] else lk bef k := by
  unfold TL putT upT
  simp
theorem outB_ok {bef : List S73} (hbl : ∀ h ∈ bef, h.f1.length ≤ 100) : Ok3 (outB bef) bef.length (bef.length * 100) := by
  have h3 := ok3_bef bef hbl bef.length (Nat.le_refl _)
  rw [List.take_length] at h3
  exact h3
theorem bind_ln {bef : List S73} (H : AreH bef []) (n : Int) (hn : 0 ≤ n ∧ n ≤ 9223372036854775807) {Ab A0 : Option Addr} {cb c0 : Nat} {w0 w : World} (hcb : bef.length ≤ cb) (hc0 : [fL n].length ≤ c0) (E : En w0 w bef Ab) (hf : Kd.C k48 w A0 [fL n].length [fL n]) :
    Calls Tryz.prog 18 #[.string ⟨#[47]⟩, .string ⟨#[]⟩, .slice Ab bef.length cb, .slice A0 [fL n].length c0] w fun e w' => ∃ A c, e = .returned (.tuple #[.agg #[.string ⟨#[47]⟩, .string ⟨#[47]⟩, .string ⟨#[47]⟩, .string ⟨#[]⟩, .slice A (outB bef).length c, .int .i64 n], .bool true]) ∧ (outB bef).length ≤ c ∧ Kd.C k73 w' A (outB bef).length (outB bef) ∧ Below w.heap.size w w' := by
  have hbl : ∀ h ∈ bef, h.f1.length ≤ 100 := fun h hh => (H.hs h hh).few
  have hcl0 : lk bef CL = none := lk_not (fun a ha => (H.hs a ha).not)
  have hTf : ∀ k, (if CL = k then none else TL bef n 1 k) = lk bef k := by
    intro k
    rw [TL_one]
    by_cases h : CL = k
    · subst h; rw [if_pos rfl, hcl0]
    · rw [if_neg h, if_neg h]
  have hlen : ∀ k x, lk bef k = some x → x.length ≤ 1000000 := fun k x h => by
    obtain ⟨a, ha, _, e⟩ := lk_mem h
    have := hbl a ha
    rw [e] at this
    omega
  refine (bind_hdr bef [fL n] Ab A0 cb c0 (TL bef n) n (fun k => if CL = k then none else TL bef n 1 k) w E.tab E.pow E.spc E.rb hcb hf hc0 H.n0 (by simp) H.nd hbl (fun k => rfl) (fun i hi k x h => ?_) (fun k x h => hlen k x (by rw [← hTf]; exact h)) ?_ ?_).mono ?_
  · rcases Nat.eq_zero_or_pos i with rfl | h0
    · exact hlen k x h
    · obtain rfl : i = 1 := by simp at hi; omega
      rw [TL_one] at h
      split at h
      · obtain rfl := Option.some.inj h
        simp
      · exact hlen k x h
  · intro i hi C eb mh m w' hM hc hP' hS'
    obtain rfl : i = 0 := by simp at hi; omega
    exact putL hM hP' hS' hc ⟨#[]⟩ CL noSp_CL (by decide +kernel) ⟨#[]⟩ n (by omega) (by decide)
  · intro C eb qm hm m X rb ub w' he hh hXu hXr hXe hR hU
    have h := encode_len he hh n hn (by show TL bef n 1 CL = _; rw [TL_one, if_pos rfl]) rb ub hXu hXr hXe _ _ hR hU rfl _ _ _ _ _ rfl rfl rfl rfl rfl
    exact h
  · rintro e w' ⟨A, c, l, he, hc, hC, hs, hl, hb⟩
    have h0 := lk_bef H.nd hbl bef.length (Nat.le_refl _)
    rw [List.take_length] at h0
    obtain rfl : l = outB bef := srt_ext hs (outB_ok hbl).s (fun k => ((hl k).trans (hTf k)).trans (h0 k).symm)
    exact ⟨A, c, he, hc, hC, hb⟩
set_option maxHeartbeats 4000000 in
set_option maxRecDepth 100000 in
theorem fnContentLength (bef : List S73) (Ab : Option Addr) (cb : Nat) (n : Int) (w : World) (hrb : Kd.C k73 w Ab bef.length bef) (hcb : bef.length ≤ cb) (hn : -9223372036854775808 ≤ n ∧ n ≤ 9223372036854775807) (hT : Tab w) (hP : Pow w) (hS : Spc w) :
    Calls Tryz.prog 4 #[.slice Ab bef.length cb, .int .i64 n] w fun e w' => e = .returned (.bool true) ∧ Below w.heap.size w w' := by
  have HE : Aside0 (En w w bef Ab) := .mk ⟨Below.refl _ _, hT, hP, hS, hrb⟩
  obtain ⟨b5, h27, hfit5⟩ := fits5_call bef Ab cb w hrb hcb
  replace h27 := Aside0.mk h27
  clear hT hP hS
  replace hn := Aside0.mk hn; replace hrb := Aside0.mk hrb
  cases b5 with
  | false =>
    clear hfit5
    go_enter Tryz.func4, Tryz.ntmps4
    go_wp2_with fail
    refine h27.out.mono ?_
    rintro e w1 ⟨rfl, hb1⟩
    go_wp2
    go_ret
    exact ⟨rfl, hb1⟩
  | true =>
    obtain ⟨hl5, hff5⟩ := hfit5 rfl
    replace hff5 := Aside0.mk hff5
    go_enter Tryz.func4, Tryz.ntmps4
    go_wp2_with fail
    refine h27.out.mono ?_
    rintro e w1 ⟨rfl, hb1⟩
    have HE2 := Aside0.mk (HE.out.call hb1)
    clear hb1 h27
    obtain ⟨F, b, hF, hA⟩ := are_eq bef [] hl5 (fun h hh => hff5.out h hh) (by simp) (fun f hf => by cases hf)
    replace hF := Aside0.mk hF
    replace hA := Aside0.mk hA
    go_wp2_with fail
    refine (spec_AreHeaders.calls F Ab cb bef none 0 [] b w1 HE2.out.rb hcb (nil_k48 w1) (Nat.le_refl _) hF.out).mono ?_
    rintro e w3 ⟨rfl, hb3⟩
    have HE3 := Aside0.mk (HE2.out.call hb3)
    clear hb3 hF
    cases b with
    | false =>
      go_wp2_with fail
      refine HE3.out.works.mono ?_
      rintro e w4 ⟨rfl, hb4⟩
      have HE4 := Aside0.mk (HE3.out.call hb4)
      clear hb4
      go_wp2
      go_ret
      exact ⟨rfl, HE4.out.below⟩
    | true =>
      have H := Aside0.mk (hA.out rfl)
      clear hA
      by_cases hneg : n < 0
      · go_wp2_with fail
        refine HE3.out.works.mono ?_
        rintro e w4 ⟨rfl, hb4⟩
        have HE4 := Aside0.mk (HE3.out.call hb4)
        clear hb4
        go_wp2
        go_ret
        exact ⟨rfl, HE4.out.below⟩
      · have hnn : Aside0 (0 ≤ n ∧ n ≤ 9223372036854775807) := .mk (by have := hn.out; omega)
        go_wp2_with fail
        have hbs := heap_new w3 (.cells #[.int .i64 3, .string ⟨#[]⟩, .string CL, .int .i64 5, .string ⟨#[]⟩, .int .i64 n] 48)
        have hb4 := below_alloc (Below.refl w3.heap.size w3) (.cells #[.int .i64 3, .string ⟨#[]⟩, .string CL, .int .i64 5, .string ⟨#[]⟩, .int .i64 n] 48)
        unfold CL at hbs hb4
        generalize w3.alloc (.cells #[.int .i64 3, .string ⟨#[]⟩, .string ⟨#[67, 111, 110, 116, 101, 110, 116, 45, 76, 101, 110, 103, 116, 104]⟩, .int .i64 5, .string ⟨#[]⟩, .int .i64 n] 48) = w4 at *
        have HE4 := Aside0.mk (HE3.out.call hb4)
        have HL := one_k48 (f := fL n) hbs
        clear hb4 hbs HE3
        refine (bind_ln H.out n hnn.out hcb (Nat.le_refl _) HE4.out HL).mono ?_
        rintro e w5 ⟨A, c, rfl, hcl, hC, hb5⟩
        have HE5 := Aside0.mk (HE4.out.call hb5)
        have hbl : Aside0 (∀ h ∈ bef, h.f1.length ≤ 100) := .mk (fun h hh => (H.out.hs h hh).few)
        have hval := Aside0.mk (show ∀ h ∈ outB bef, h.f1.length ≤ 9223372036854775807 from fun a ha => by have := (outB_ok hbl.out).v a ha; have := H.out.n0; omega)
        obtain ⟨L, hL⟩ : ∃ L, L = outB bef := ⟨_, rfl⟩
        rw [← hL] at hcl hC hval
        simp only [← hL]
        replace hL := Aside0.mk hL
        replace hC := Aside0.mk hC
        replace hcl := Aside0.mk hcl
        clear hb5 HE4 HL
        go_wp2_with fail
        have hbx := heap_new w5 (.cells #[.string ⟨#[47]⟩, .string ⟨#[47]⟩, .string ⟨#[47]⟩, .string ⟨#[]⟩, .slice A L.length c, .int .i64 n] 33)
        have hb6 := below_alloc (Below.refl w5.heap.size w5) (.cells #[.string ⟨#[47]⟩, .string ⟨#[47]⟩, .string ⟨#[47]⟩, .string ⟨#[]⟩, .slice A L.length c, .int .i64 n] 33)
        have HE6 := Aside0.mk (HE5.out.call hb6)
        have hC6 := Aside0.mk (Kd.C_below hC.out hb6)
        generalize w5.alloc (.cells #[.string ⟨#[47]⟩, .string ⟨#[47]⟩, .string ⟨#[47]⟩, .string ⟨#[]⟩, .slice A L.length c, .int .i64 n] 33) = w6 at *
        generalize w5.heap.size = fb at *
        replace hbx := Aside0.mk hbx
        clear hb6 HE5 hC
        have HE5 := HE6
        have hC5 := hC6
        clear HE6 hC6
        refine wp_region_noPanic ?_
        refine wp_region_held_drew (S := fun w' => w'.cell? ⟨fb, 4, none⟩ = some (.slice A L.length c) ∧ w'.cell? ⟨fb, 5, none⟩ = some (.int .i64 n)) (by kernel_rfl) (two hbx.out) (fun hHeld => ?_)
        refine wpAnyH_ready (rs := [0]) (by kernel_rfl) (by simp) ?_
        refine AllReadyH.cons rfl (fun K hK => ?_) AllReadyH.nil
        go_simp
        have HE5' : En w w6.drew bef Ab := ⟨⟨HE5.out.below.os, HE5.out.below.tape, HE5.out.below.output, HE5.out.below.size, HE5.out.below.block⟩, HE5.out.tab, HE5.out.pow, HE5.out.spc, HE5.out.rb⟩
        refine HE5'.works.mono ?_
        rintro e u1 ⟨rfl, hb6⟩
        have HE6 := Aside0.mk (HE5'.call hb6)
        have hbx6 := Aside0.mk (heap_below hb6 hbx.out)
        have hC6 := Aside0.mk (Kd.C_below (show Kd.C k73 w6.drew A L.length L from hC5.out) hb6)
        clear hb6 HE5'
        go_simp
        refine hK.out _ _ (two hbx6.out) (fun hHeld => ?_)
        clear hK K
        try simp only [Act.put, List.getElem_toArray, List.getElem_cons_zero, List.getElem_cons_succ, List.setIfInBounds_toArray, List.set_cons_zero, List.set_cons_succ]
        refine wpAnyH_take (i := 1) (v := ?_) rfl (by kernel_rfl) (by kernel_rfl) (by kernel_rfl) (fun _ _ _ h => h) (Or.inl ⟨by rfl, ?_⟩) (by assumption) ?_
        rotate_left 1
        · intro w hSw; (try dsimp only at hSw); first | (go_simp; done) | (go_simp; with_reducible rfl)
        try simp only [Act.put, List.getElem_toArray, List.getElem_cons_zero, List.getElem_cons_succ, List.setIfInBounds_toArray, List.set_cons_zero, List.set_cons_succ]
        refine wpAnyH_take (i := 2) (v := ?_) rfl (by kernel_rfl) (by kernel_rfl) (by kernel_rfl) (fun _ _ _ h => h) (Or.inl ⟨by rfl, ?_⟩) (by assumption) ?_
        rotate_left 1
        · intro w hSw; (try dsimp only at hSw); first | (go_simp; done) | (go_simp; with_reducible rfl)
        try simp only [Act.put, List.getElem_toArray, List.getElem_cons_zero, List.getElem_cons_succ, List.setIfInBounds_toArray, List.set_cons_zero, List.set_cons_succ]
        refine wpAnyH_take (i := 3) (v := ?_) rfl (by kernel_rfl) (by kernel_rfl) (by kernel_rfl) (fun _ _ _ h => h) (Or.inl ⟨by rfl, ?_⟩) (by assumption) ?_
        rotate_left 1
        · intro w hSw; (try dsimp only at hSw); first | (go_simp; done) | (go_simp; with_reducible rfl)
        try simp only [Act.put, List.getElem_toArray, List.getElem_cons_zero, List.getElem_cons_succ, List.setIfInBounds_toArray, List.set_cons_zero, List.set_cons_succ]
        refine wpAnyH_take (i := 4) (v := ?_) rfl (by kernel_rfl) (by kernel_rfl) (by kernel_rfl) (fun _ _ _ h => h) (Or.inl ⟨by rfl, ?_⟩) (by assumption) ?_
        rotate_left 1
        · intro w hSw; (try dsimp only at hSw); first | (go_simp; done) | (go_simp; with_reducible rfl)
        try simp only [Act.put, List.getElem_toArray, List.getElem_cons_zero, List.getElem_cons_succ, List.setIfInBounds_toArray, List.set_cons_zero, List.set_cons_succ]
        refine wpAnyH_take (i := 5) (v := ?_) rfl (by kernel_rfl) (by kernel_rfl) (by kernel_rfl) (fun _ _ _ h => h) (Or.inl ⟨by rfl, ?_⟩) (by assumption) ?_
        rotate_left 1
        · intro w hSw; (try dsimp only at hSw); first | (go_simp; done) | (go_simp; with_reducible rfl)
        try simp only [Act.put, List.getElem_toArray, List.getElem_cons_zero, List.getElem_cons_succ, List.setIfInBounds_toArray, List.set_cons_zero, List.set_cons_succ]
        refine wpAnyH_take (i := 6) (v := ?_) rfl (by kernel_rfl) (by kernel_rfl) (by kernel_rfl) (fun _ _ _ h => h) (Or.inl ⟨by rfl, ?_⟩) (by assumption) ?_
        rotate_left 1
        · intro w hSw; (try dsimp only at hSw); first | (go_simp; done) | (go_simp; with_reducible rfl)
        try simp only [Act.put, List.getElem_toArray, List.getElem_cons_zero, List.getElem_cons_succ, List.setIfInBounds_toArray, List.set_cons_zero, List.set_cons_succ]
        refine wpAnyH_take (i := 7) (v := ?_) rfl (by kernel_rfl) (by kernel_rfl) (by kernel_rfl) (fun _ _ _ h => h) (Or.inl ⟨by rfl, ?_⟩) (by assumption) ?_
        rotate_left 1
        · intro w hSw; (try dsimp only at hSw); first | (go_simp; done) | (go_simp; with_reducible rfl)
        try simp only [Act.put, List.getElem_toArray, List.getElem_cons_zero, List.getElem_cons_succ, List.setIfInBounds_toArray, List.set_cons_zero, List.set_cons_succ]
        refine wpAnyH_take (i := 8) (v := ?_) rfl (by kernel_rfl) (by kernel_rfl) (by kernel_rfl) (fun _ _ _ h => h) (Or.inl ⟨by rfl, ?_⟩) (by assumption) ?_
        rotate_left 1
        · intro w hSw; (try dsimp only at hSw); first | (go_simp; done) | (go_simp; with_reducible rfl)
        try simp only [Act.put, List.getElem_toArray, List.getElem_cons_zero, List.getElem_cons_succ, List.setIfInBounds_toArray, List.set_cons_zero, List.set_cons_succ]
        refine wpAnyH_take (i := 9) (v := ?_) rfl (by kernel_rfl) (by kernel_rfl) (by kernel_rfl) (fun _ _ _ h => h) (Or.inl ⟨by rfl, ?_⟩) (by assumption) ?_
        rotate_left 1
        · intro w hSw; (try dsimp only at hSw); first | (go_simp; done) | (go_simp; with_reducible rfl)
        try simp only [Act.put, List.getElem_toArray, List.getElem_cons_zero, List.getElem_cons_succ, List.setIfInBounds_toArray, List.set_cons_zero, List.set_cons_succ]
        refine wpAnyH_take (i := 10) (v := ?_) rfl (by kernel_rfl) (by kernel_rfl) (by kernel_rfl) (fun _ _ _ h => h) (Or.inl ⟨by rfl, ?_⟩) (by assumption) ?_
        rotate_left 1
        · intro w hSw; (try dsimp only at hSw); first | (go_simp; done) | (go_simp; with_reducible rfl)
        try simp only [Act.put, List.getElem_toArray, List.getElem_cons_zero, List.getElem_cons_succ, List.setIfInBounds_toArray, List.set_cons_zero, List.set_cons_succ]
        refine wpAnyH_take (i := 11) (v := ?_) rfl (by kernel_rfl) (by kernel_rfl) (by kernel_rfl) (fun _ _ _ h => h) (Or.inl ⟨by rfl, ?_⟩) (by assumption) ?_
        rotate_left 1
        · intro w hSw; (try dsimp only at hSw); first | (go_simp; done) | (go_simp; with_reducible rfl)
        try simp only [Act.put, List.getElem_toArray, List.getElem_cons_zero, List.getElem_cons_succ, List.setIfInBounds_toArray, List.set_cons_zero, List.set_cons_succ]
        refine wpAnyH_take (i := 12) (v := ?_) rfl (by kernel_rfl) (by kernel_rfl) (by kernel_rfl) (fun _ _ _ h => h) (Or.inl ⟨by rfl, ?_⟩) (by assumption) ?_
        rotate_left 1
        · intro w hSw; (try dsimp only at hSw); first | (go_simp; done) | (go_simp; with_reducible rfl)
        try simp only [Act.put, List.getElem_toArray, List.getElem_cons_zero, List.getElem_cons_succ, List.setIfInBounds_toArray, List.set_cons_zero, List.set_cons_succ]
        refine wpAnyH_take (i := 13) (v := ?_) rfl (by kernel_rfl) (by kernel_rfl) (by kernel_rfl) (fun _ _ _ h => h) (Or.inl ⟨by rfl, ?_⟩) (by assumption) ?_
        rotate_left 1
        · intro w hSw; (try dsimp only at hSw); first | (go_simp; done) | (go_simp; with_reducible rfl)
        try simp only [Act.put, List.getElem_toArray, List.getElem_cons_zero, List.getElem_cons_succ, List.setIfInBounds_toArray, List.set_cons_zero, List.set_cons_succ]
        refine wpAnyH_ready (rs := [14]) (by kernel_rfl) (by simp) ?_
        refine AllReadyH.cons rfl (fun K hK => ?_) AllReadyH.nil
        go_simp
        refine (hdrs0_call bef Ab cb u1 HE6.out.rb hcb H.out.n0 hbl.out).mono ?_
        rintro e u2 ⟨A2, c2, l2, rfl, hc2, hC2, hl2, hb7⟩
        have hl3 := hl2.trans hL.out.symm
        clear hl2
        subst hl3
        have HE7 := Aside0.mk (HE6.out.call hb7)
        have hbx7 := Aside0.mk (heap_below hb7 hbx6.out)
        have hC7 := Aside0.mk (Kd.C_below hC6.out hb7)
        replace hC2 := Aside0.mk hC2
        clear hb7
        go_simp
        refine hK.out _ _ (two hbx7.out) (fun hHeld => ?_)
        clear hK K
        try simp only [Act.put, List.getElem_toArray, List.getElem_cons_zero, List.getElem_cons_succ, List.setIfInBounds_toArray, List.set_cons_zero, List.set_cons_succ]

        refine wpAnyH_ready (rs := [15]) (by kernel_rfl) (by simp) ?_
        refine AllReadyH.cons rfl (fun K hK => ?_) AllReadyH.nil
        go_simp
        refine (same_call A c A2 c2 l2 u2 hC7.out hcl.out hC2.out hc2 hval.out).mono ?_
        rintro e u3 ⟨rfl, hb8⟩
        have HE8 := Aside0.mk (HE7.out.call hb8)
        have hbx8 := Aside0.mk (heap_below hb8 hbx7.out)
        clear hb8
        go_simp
        refine hK.out _ _ (two hbx8.out) (fun hHeld => ?_)
        clear hK K
        try simp only [Act.put, List.getElem_toArray, List.getElem_cons_zero, List.getElem_cons_succ, List.setIfInBounds_toArray, List.set_cons_zero, List.set_cons_succ]
        refine wpAnyH_take (i := 16) (v := ?_) rfl (by kernel_rfl) (by kernel_rfl) (by kernel_rfl) (fun _ _ _ h => h) (Or.inl ⟨by rfl, ?_⟩) (by assumption) ?_
        rotate_left 1
        · intro w hSw; (try dsimp only at hSw); first | (go_simp; done) | (go_simp; with_reducible rfl)
        try simp only [Act.put, List.getElem_toArray, List.getElem_cons_zero, List.getElem_cons_succ, List.setIfInBounds_toArray, List.set_cons_zero, List.set_cons_succ]
        refine wpAnyH_ready (rs := [17]) (by kernel_rfl) (by simp) ?_
        refine AllReadyH.cons rfl (fun K hK => ?_) AllReadyH.nil
        go_simp
        refine hK.out _ _ (two hbx8.out) (fun hHeld => ?_)
        clear hK K
        try simp only [Act.put, List.getElem_toArray, List.getElem_cons_zero, List.getElem_cons_succ, List.setIfInBounds_toArray, List.set_cons_zero, List.set_cons_succ]
        refine wpAnyH_done (by kernel_rfl) ?_ _
        refine NoPanic.normal ?_
        clear hHeld
        go_wp2
        go_ret
        exact ⟨rfl, HE8.out.below⟩
end HH
end Go.Proofs.YtclmjmfcggkpaaaGreatDoor
