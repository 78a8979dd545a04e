import Derived.Test.YtclmjmfcggkpaaaGreatDoorU33
import Derived.Test.YtclmjmfcggkpaaaGreatDoorU50
set_option linter.unusedVariables false
set_option linter.unusedSimpArgs false
namespace Go.Proofs.YtclmjmfcggkpaaaGreatDoor
open Go.RowKit Go.Proofs.YtclmjmfcggkpaaaGreatDoorW.PrintWords Go.Proofs.YtclmjmfcggkpaaaGreatDoorW.PrintLast Go.Proofs.YtclmjmfcggkpaaaGreatDoorW.PrintMore
open PX
namespace HH
open H
/-! ### The law FnHas, walked -/
theorem empty48 (W : World) : Kd.R k48 48 (W.alloc (.cells #[] 48)) W.heap.size (fun k => W.heap.size ≤ k) (.slice (some ⟨W.heap.size, 0, none⟩) 0 0) [] := by
 refine ⟨fun k hk => ?_, [], ?_, ?_⟩
 ·have : W.heap.size = k := by simpa [Value.ownBlock] using hk
  omega
 ·have h2 := World.ownsRow_lit (base := W.heap.size) (e := 48) (size := 6) W #[] 0 (Nat.le_refl _) (by simp [maxLen]) (by simp)
  have h3 : (W.alloc (.cells #[] 48)).ownsRow W.heap.size 48 6 (.slice (some ⟨W.heap.size, 0, none⟩) 0 0) 0 [] := by simpa using h2
  exact h3
 ·exact Reps.none _ _
theorem app48 {ops : Array Oper} {rest : List Oper} {o : Oper} {a : Act} {Q : Exit → Act → World → Prop} {w0 W : World} (base : Nat) (hgd : o.guard = none) (s x : Operand)
 (ho : o.op = .call { callee := .builtin .append, args := #[s, x], argTypes := #[22, 22] }) (v : Value) (xs ys : List S48) (A : Option Addr) (c : Nat)
 (hs : a.eval s = v) (hx : a.eval x = .slice A ys.length c) (HO : Kd.R k48 48 W base (fun k => base ≤ k) v xs) (hr : Kd.C k48 W A ys.length ys) (HB : Below base w0 W) (hbase : base ≤ W.heap.size) (hl : xs.length + ys.length ≤ 1000)
 (h : ∀ v1 w1, Kd.R k48 48 w1 base (fun k => base ≤ k) v1 (xs ++ ys) → Below base w0 w1 → wpList Tryz.prog ops Q rest (a.put o.dst v1) w1) : wpList Tryz.prog ops Q (o :: rest) a W := by
 refine Kd.R_append_rows k48 (w0 := w0) base hgd s x 22 48 (.agg #[(.int .i64 0), (.string ⟨#[]⟩), (.string ⟨#[]⟩), (.int .i64 0), (.string ⟨#[]⟩), (.int .i64 0)]) 72 ho Tryz.underlying22 info48 rfl (by decide) (by omega) v xs ys A ys.length c (fun k => base ≤ k) (fun _ => False) hs hx HO hr (fun _ _ h => h) (fun _ hk => hk.elim) (fun k hk => by omega) HB hbase (by omega) ?_
 intro v1 w1 hR hB _ _
 exact h v1 w1 hR hB
structure EnQ (w w' : World) (qs : List S48) (Aq : Option Addr) (hs : List S48) (Ah : Option Addr) : Prop where
 below : Below w.heap.size w w'
 tab : Tab w'
 pow : Pow w'
 spc : Spc w'
 rq : Kd.C k48 w' Aq qs.length qs
 rh : Kd.C k48 w' Ah hs.length hs
theorem EnQ.call {w w' w'' : World} {qs : List S48} {Aq : Option Addr} {hs : List S48} {Ah : Option Addr} (h : EnQ w w' qs Aq hs Ah) (hb : Below w'.heap.size w' w'') : EnQ w w'' qs Aq hs Ah :=
 ⟨below_then h.below h.below.size hb, h.tab.below hb h.tab.lt, h.pow.below hb, h.spc.calm hb, Kd.C_below h.rq hb, Kd.C_below h.rh hb⟩
theorem EnQ.works {w w' : World} {qs : List S48} {Aq : Option Addr} {hs : List S48} {Ah : Option Addr} (h : EnQ w w' qs Aq hs Ah) : Calls Tryz.prog 17 #[] w' fun e w'' => e = .returned (.bool true) ∧ Below w'.heap.size w' w'' := works_call w' h.tab
theorem lk_some {L : List S73} (q : ByteArray) : (lk L q).isSome = true ↔ ∃ p ∈ L, p.f0 = q := by
 constructor
 ·intro h
  obtain ⟨x, hx⟩ := Option.isSome_iff_exists.1 h
  obtain ⟨a, ha, h1, _⟩ := lk_mem hx
  exact ⟨a, ha, h1⟩
 ·rintro ⟨p, hp, hq⟩
  cases h : lk L q with
  | some x => rfl
  | none =>
    exfalso
    have : ∀ (L : List S73), lk L q = none → p ∈ L → False := by
     intro L
     induction L with
     | nil => intro _ h; cases h
     | cons a L ih =>
       intro h1 h2
       rw [lk_cons] at h1
       rcases List.mem_cons.1 h2 with rfl | h2
       ·rw [if_pos hq] at h1; cases h1
       ·split at h1
        ·cases h1
        ·exact ih h1 h2
    exact this L h hp
theorem fold_some (fs : List S48) (q : ByteArray) : ∀ T : ByteArray → Option (List ByteArray), (fs.foldl putG T q).isSome = true ↔ (T q).isSome = true ∨ ∃ f ∈ fs, hk f = q := by
 induction fs with
 | nil => intro T; simp
 | cons f fs ih =>
   intro T
   rw [List.foldl_cons, ih]
   unfold putG
   rw [put_some]
   simp only [List.mem_cons, exists_eq_or_imp]
   constructor
   ·rintro ((h | h) | h)
    ·exact .inr (.inl h)
    ·exact .inl h
    ·exact .inr (.inr h)
   ·rintro (h | h | h)
    ·exact .inl (.inr h)
    ·exact .inl (.inl h)
    ·exact .inr h
theorem outH_has (hs : List S48) (q : ByteArray) : (∃ p ∈ outH [] hs, p.f0.toList = q.toList) ↔ ∃ f ∈ hs, hk f = q := by
 have h1 := TT_lk (bef := []) hs (by simp) (by simp) hs.length (Nat.le_refl _) q
 have h2 := fold_some hs q (lk [])
 have h3 : TT [] hs hs.length q = hs.foldl putG (lk []) q := by unfold TT; rw [List.take_length]
 rw [← h3, h1, List.take_length] at h2
 have h4 := lk_some (L := outH [] hs) q
 have h5 : (lk (outH [] hs) q).isSome = true ↔ ∃ f ∈ hs, hk f = q := by
  refine h2.trans ?_
  simp [lk_nil]
 rw [← h5, h4]
 exact ⟨fun ⟨p, hp, e⟩ => ⟨p, hp, toList_inj e⟩, fun ⟨p, hp, e⟩ => ⟨p, hp, by rw [e]⟩⟩
theorem okp_q {qs : List S48} (h1 : ∀ f ∈ qs, fitG f) (h2 : ∀ f ∈ qs, -9223372036854775808 ≤ f.f5 ∧ f.f5 ≤ 9223372036854775807) (h3 : ∀ f ∈ qs, OkQ f) (h4 : ∀ f ∈ qs, full f) : ∀ f ∈ qs, OkP f := by
 intro f hf
 obtain ⟨q1, q2, q3⟩ := h3 f hf
 refine ⟨⟨q2, q3⟩, h2 f hf, (h1 f hf).2.2, .inl ⟨q1, fun e => h4 f hf ?_⟩⟩
 rw [← textS_txt f.f3 f.f4 f.f5 ⟨q2, q3⟩]
 exact (toList_nil _).2 e
theorem okp_h {hs : List S48} (h1 : ∀ f ∈ hs, fitG f) (h2 : ∀ f ∈ hs, -9223372036854775808 ≤ f.f5 ∧ f.f5 ≤ 9223372036854775807) (h3 : AreH [] hs) : ∀ f ∈ hs, OkP f := by
 intro f hf
 have hF := h3.fs f hf
 have hg := h1 f hf
 refine ⟨hF.kind, h2 f hf, hg.2.2, .inr ⟨hF.wh, hn_noSp hF.key, fun h5 => ?_, by have := hg.1; have := hg.2.1; omega⟩⟩
 have := hn_noSp hF.name
 unfold hkey at this
 rw [if_pos h5] at this
 exact noSp_left this
theorem told_q {qs hs : List S48} {Tq Th : ByteArray → Option (List ByteArray)} (h : Told (qs ++ hs) (qs ++ hs).length Tq Th) (h3 : ∀ f ∈ qs, OkQ f) (h4 : AreH [] hs) (q : ByteArray) {b : Bool} (hb : b = true ↔ ∃ p ∈ qs.foldl addQ [], p.f0.toList = q.toList) : (Tq q).isSome = b := by
 have h1 := h.kq q
 rw [List.take_length] at h1
 have h2 := fold_has q qs []
 rw [Bool.eq_iff_iff, h1, hb, h2]
 constructor
 ·rintro ⟨f, hf, e1, e2⟩
  rcases List.mem_append.1 hf with hf | hf
  ·exact .inr ⟨f, hf, by rw [e2]⟩
  ·have := (h4.fs f hf).wh
   unfold isQ at e1
   omega
 ·rintro (⟨p, hp, _⟩ | ⟨f, hf, e⟩)
  ·cases hp
  ·exact ⟨f, List.mem_append.2 (.inl hf), (h3 f hf).1, toList_inj e⟩
theorem told_h {qs hs : List S48} {Tq Th : ByteArray → Option (List ByteArray)} (h : Told (qs ++ hs) (qs ++ hs).length Tq Th) (h3 : ∀ f ∈ qs, OkQ f) (h4 : AreH [] hs) (q : ByteArray) {b : Bool} (hb : b = true ↔ ∃ p ∈ outH [] hs, p.f0.toList = q.toList) : (Th q).isSome = b := by
 have h1 := h.kh q
 rw [List.take_length] at h1
 rw [Bool.eq_iff_iff, h1, hb, outH_has]
 constructor
 ·rintro ⟨f, hf, e1, e2⟩
  rcases List.mem_append.1 hf with hf | hf
  ·have := (h3 f hf).1
   omega
  ·exact ⟨f, hf, e2⟩
 ·rintro ⟨f, hf, e⟩
  exact ⟨f, List.mem_append.2 (.inr hf), (h4.fs f hf).wh.1, e⟩
set_option maxHeartbeats 8000000 in
set_option maxRecDepth 100000 in
theorem fnHas (qs : List S48) (Aq : Option Addr) (cq : Nat) (hs : List S48) (Ah : Option Addr) (ch : Nat) (query header : ByteArray) (w : World) (hrq : Kd.C k48 w Aq qs.length qs) (hcq : qs.length ≤ cq) (hnq : ∀ f ∈ qs, -9223372036854775808 ≤ f.f5 ∧ f.f5 ≤ 9223372036854775807)
 (hrh : Kd.C k48 w Ah hs.length hs) (hch : hs.length ≤ ch) (hnh : ∀ f ∈ hs, -9223372036854775808 ≤ f.f5 ∧ f.f5 ≤ 9223372036854775807) (hT : Tab w) (hP : Pow w) (hS : Spc w) :
 Calls Tryz.prog 10 #[.slice Aq qs.length cq, .slice Ah hs.length ch, .string query, .string header] w fun e w' => e = .returned (.bool true) ∧ Below w.heap.size w w' := by
 have HE : Aside0 (EnQ w w qs Aq hs Ah) := .mk ⟨Below.refl _ _, hT, hP, hS, hrq, hrh⟩
 obtain ⟨b1, h11, hfit1⟩ := fits1_call qs Aq cq w hrq hcq
 replace h11 := Aside0.mk h11
 clear hT hP hS hrq hrh
 replace hnq := Aside0.mk hnq; replace hnh := Aside0.mk hnh; replace hcq := Aside0.mk hcq; replace hch := Aside0.mk hch
 go_enter Tryz.func10, Tryz.ntmps10
 go_wp2_with fail
 refine h11.out.mono ?_
 rintro e w1 ⟨rfl, hb1⟩
 have HE1 := Aside0.mk (HE.out.call hb1)
 clear hb1 h11 HE
 cases b1 with
 | false =>
   go_wp2
   go_ret
   exact ⟨rfl, HE1.out.below⟩
 | true =>
 obtain ⟨hl1, hff1⟩ := hfit1 rfl
 replace hff1 := Aside0.mk hff1
 clear hfit1
 obtain ⟨b2, h12, hfit2⟩ := fits1_call hs Ah ch w1 HE1.out.rh hch.out
 replace h12 := Aside0.mk h12
 go_wp2_with fail
 refine h12.out.mono ?_
 rintro e w2 ⟨rfl, hb2⟩
 have HE2 := Aside0.mk (HE1.out.call hb2)
 clear hb2 h12 HE1
 cases b2 with
 | false =>
   go_wp2
   go_ret
   exact ⟨rfl, HE2.out.below⟩
 | true =>
 obtain ⟨hl2, hff2⟩ := hfit2 rfl
 replace hff2 := Aside0.mk hff2
 clear hfit2
 by_cases cz : (query.size : Int) > 2147483647
 ·go_wp2
  go_ret
  exact ⟨rfl, HE2.out.below⟩
 by_cases cy : (header.size : Int) > 2147483647
 ·go_wp2
  go_ret
  exact ⟨rfl, HE2.out.below⟩
 obtain ⟨F3, b3, e3, k3⟩ := aq_eq qs hl1
 have h13 := Aside0.mk (spec_AreQueries.calls F3 none 0 [] Aq cq qs b3 w2 (Kd.C_nil k65 w2) (Nat.le_refl _) HE2.out.rq hcq.out e3)
 clear e3
 simp only [List.length_nil] at h13
 go_wp2_with fail
 refine h13.out.mono ?_
 rintro e w3 ⟨rfl, hb3⟩
 have HE3 := Aside0.mk (HE2.out.call hb3)
 clear hb3 h13 HE2
 cases b3 with
 | false =>
   go_wp2_with fail
   refine HE3.out.works.mono ?_
   rintro e w4 ⟨rfl, hbw⟩
   have HEw := Aside0.mk (HE3.out.call hbw)
   clear hbw
   go_wp2
   go_ret
   exact ⟨rfl, HEw.out.below⟩
 | true =>
 obtain ⟨hoq, hlq⟩ := k3 rfl
 replace hoq := Aside0.mk hoq
 clear k3
 have hfq : ∀ f ∈ qs, FitT f := fun f hf => ⟨(hff1.out f hf).2.2, hnq.out f hf⟩
 obtain ⟨F4, b4, e4, k4⟩ := af_eq qs hl1 hfq
 replace hfq := Aside0.mk hfq
 have h14 := Aside0.mk (spec_AreFilled.calls F4 Aq cq qs b4 w3 HE3.out.rq hcq.out e4)
 clear e4
 go_wp2_with fail
 refine h14.out.mono ?_
 rintro e w4 ⟨rfl, hb4⟩
 have HE4 := Aside0.mk (HE3.out.call hb4)
 clear hb4 h14 HE3
 cases b4 with
 | false =>
   go_wp2_with fail
   refine HE4.out.works.mono ?_
   rintro e w5 ⟨rfl, hbw⟩
   have HEw := Aside0.mk (HE4.out.call hbw)
   clear hbw
   go_wp2
   go_ret
   exact ⟨rfl, HEw.out.below⟩
 | true =>
 have hfull := Aside0.mk (k4 rfl)
 clear k4
 obtain ⟨F5, b5, e5, k5⟩ := are_eq [] hs (by simp) (by simp) hl2 (fun f hf => ⟨(hff2.out f hf).1, (hff2.out f hf).2.1⟩)
 have h15 := Aside0.mk (spec_AreHeaders.calls F5 none 0 [] Ah ch hs b5 w4 (Kd.C_nil k73 w4) (Nat.le_refl _) HE4.out.rh hch.out e5)
 clear e5
 simp only [List.length_nil] at h15
 go_wp2_with fail
 refine h15.out.mono ?_
 rintro e w5 ⟨rfl, hb5⟩
 have HE5 := Aside0.mk (HE4.out.call hb5)
 clear hb5 h15 HE4
 cases b5 with
 | false =>
   go_wp2_with fail
   refine HE5.out.works.mono ?_
   rintro e w6 ⟨rfl, hbw⟩
   have HEw := Aside0.mk (HE5.out.call hbw)
   clear hbw
   go_wp2
   go_ret
   exact ⟨rfl, HEw.out.below⟩
 | true =>
 have hah := Aside0.mk (k5 rfl)
 clear k5
 obtain ⟨F6, e6⟩ := hn_eq header (by omega)
 have h16 := Aside0.mk (spec_IsHeaderName.calls F6 header (hnB header) w5 e6)
 clear e6
 generalize hnB header = b6 at *
 replace hlq := Aside0.mk hlq; replace hl2 := Aside0.mk hl2; replace hl1 := Aside0.mk hl1
 go_wp2_with fail
 ·refine HE5.out.works.mono ?_
  rintro e w6 ⟨rfl, hbw⟩
  have HEw := Aside0.mk (HE5.out.call hbw)
  clear hbw
  go_wp2
  go_ret
  exact ⟨rfl, HEw.out.below⟩
 have hqe : query.toList.isEmpty = false := by
  have hne : ¬ query.toList = [] := by assumption
  simpa using hne
 refine h16.out.mono ?_
 rintro e w6 ⟨rfl, hb6⟩
 have HE6 := Aside0.mk (HE5.out.call hb6)
 clear hb6 h16 HE5
 cases b6 with
 | false =>
   go_wp2_with fail
   refine HE6.out.works.mono ?_
   rintro e w7 ⟨rfl, hbw⟩
   have HEw := Aside0.mk (HE6.out.call hbw)
   clear hbw
   go_wp2
   go_ret
   exact ⟨rfl, HEw.out.below⟩
 | true =>
 have hba := Aside0.mk (below_alloc (Below.refl w6.heap.size w6) (.cells #[] 48))
 go_wp2_with (first | ((with_reducible refine gate_builtin (b := .append) (xs := #[.tmp 53, .tmp 54]) rfl ?_); at_builtin; refine app48 (w0 := w6) w6.heap.size rfl (.tmp 53) (.tmp 54) rfl _ [] qs Aq cq rfl rfl (empty48 w6) (Kd.C_below HE6.out.rq hba.out) hba.out hba.out.size (by have := hlq.out; simp; omega) ?_; intro v1 w7 hR7 hB7; rw [List.nil_append] at hR7; replace hR7 := Aside0.mk hR7; replace hB7 := Aside0.mk hB7) | ((with_reducible refine gate_builtin (b := .append) (xs := #[.tmp 55, .tmp 56]) rfl ?_); at_builtin; refine app48 (w0 := w6) w6.heap.size rfl (.tmp 55) (.tmp 56) rfl v1 qs hs Ah ch rfl rfl hR7.out (Kd.C_below HE6.out.rh hB7.out) hB7.out hB7.out.size (by have := hlq.out; have := hah.out.n1; omega) ?_; intro v2 w8 hR8 hB8; obtain ⟨A8, c8, hv8, hle8, hC8⟩ := Kd.R_reads hR8; subst hv8; replace hR8 := Aside0.mk hR8; replace hB8 := Aside0.mk hB8; replace hle8 := Aside0.mk hle8; replace hC8 := Aside0.mk hC8))
 have HE8 := Aside0.mk (HE6.out.call hB8.out)
 have hokp : ∀ f ∈ qs ++ hs, OkP f := fun f hf => (List.mem_append.1 hf).elim (okp_q hff1.out hnq.out hoq.out hfull.out f) (okp_h hff2.out hnh.out hah.out f)
 have h36 := has_call (qs ++ hs) A8 c8 query header w8 HE8.out.pow HE8.out.spc hC8.out hle8.out (by have := hlq.out; have := hah.out.n1; simp; omega) hokp
 rw [List.length_append] at h36
 refine h36.mono ?_
 rintro e w9 ⟨Tq, Th, rfl, hTd, hb9⟩
 rw [← List.length_append] at hTd
 have HE9 := Aside0.mk (HE8.out.call hb9)
 obtain ⟨bq, hbq⟩ : ∃ b, (Tq query).isSome = b := ⟨_, rfl⟩
 obtain ⟨bh, hbh⟩ : ∃ b, (Th header).isSome = b := ⟨_, rfl⟩
 rw [hbq, hbh]
 replace hTd := Aside0.mk hTd
 replace hbq := Aside0.mk hbq; replace hbh := Aside0.mk hbh
 clear hb9 hokp h36 hR7 hB7 hR8 hB8 hle8 hC8 HE6 HE8 hba
 go_wp2_with fail
 refine HE9.out.works.mono ?_
 rintro e w10 ⟨rfl, hb10⟩
 have HE10 := Aside0.mk (HE9.out.call hb10)
 clear hb10 HE9
 obtain ⟨F7, e7⟩ := qp_eq qs hlq.out hfq.out
 have h17 := Aside0.mk (spec_QueryPairs.calls F7 none 0 [] Aq cq qs _ w10 (Kd.C_nil k65 w10) (Nat.le_refl _) HE10.out.rq hcq.out e7)
 clear e7
 simp only [List.length_nil] at h17
 obtain ⟨L, hL⟩ : ∃ L, qs.foldl addQ [] = L := ⟨_, rfl⟩
 rw [hL] at h17
 have hLn : L.length ≤ 1000000 := by
  have := fold_len qs []
  rw [hL] at this
  have := hlq.out
  simp at *
  omega
 obtain ⟨F8, bn, e8, k8⟩ := hasName_eq L query hLn
 rw [← hL] at k8
 have hbn : bq = bn := hbq.out.symm.trans (told_q hTd.out hoq.out hah.out query k8)
 subst hbn
 replace hL := Aside0.mk hL; replace e8 := Aside0.mk e8
 clear k8 hbq
 go_wp2_with fail
 refine h17.out.mono ?_
 rintro e w11 ⟨v11, rfl, hR11, hb11⟩
 have HE11 := Aside0.mk (HE10.out.call hb11)
 obtain ⟨A11, c11, hv11, hle11, hC11⟩ := Kd.R_reads hR11
 subst hv11
 replace hle11 := Aside0.mk hle11; replace hC11 := Aside0.mk hC11
 clear hb11 hR11 h17 HE10
 go_wp2_with fail
 refine (spec_HasName.calls F8 A11 c11 L query bq w11 hC11.out hle11.out e8.out).mono ?_
 rintro e w12 ⟨rfl, hb12⟩
 have HE12 := Aside0.mk (HE11.out.call hb12)
 clear hb12 HE11 hle11 hC11 e8
 have h18 := Aside0.mk (hdrs_call [] hs none Ah 0 ch w12 (Kd.C_nil k73 w12) (Nat.le_refl _) HE12.out.rh hch.out (by simp) hah.out.n1 (by simp) (fun f hf => ⟨(hah.out.fs f hf).wh, (hah.out.fs f hf).kind, (hff2.out f hf).1, (hff2.out f hf).2.1, (hff2.out f hf).2.2, hnh.out f hf⟩))
 simp only [List.length_nil] at h18
 go_wp2_with fail
 refine h18.out.mono ?_
 rintro e w13 ⟨A13, c13, l, rfl, hle13, hC13, hl13, hb13⟩
 have HE13 := Aside0.mk (HE12.out.call hb13)
 have hln : l.length ≤ 1000000 := by
  have := (outH_ok (bef := []) (fs := hs) (by simp) hs.length (Nat.le_refl _)).n
  rw [List.take_length] at this
  have h2 := hah.out.n1
  rw [hl13]
  unfold outH
  simp at *
  omega
 obtain ⟨F9, bm, e9, k9⟩ := hasHeader_eq l header hln
 rw [hl13] at k9
 have hbm : bh = bm := hbh.out.symm.trans (told_h hTd.out hoq.out hah.out header k9)
 subst hbm
 replace hl13 := Aside0.mk hl13; replace e9 := Aside0.mk e9; replace hle13 := Aside0.mk hle13; replace hC13 := Aside0.mk hC13
 clear k9 hbh hb13 HE12 h18 hln
 go_wp2_with fail
 refine (spec_HasHeader.calls F9 A13 c13 l header bh w13 hC13.out hle13.out e9.out).mono ?_
 rintro e w14 ⟨rfl, hb14⟩
 have HE14 := Aside0.mk (HE13.out.call hb14)
 clear hb14
 go_wp2
 go_ret
 exact ⟨by simp, HE14.out.below⟩
end HH
end Go.Proofs.YtclmjmfcggkpaaaGreatDoor
