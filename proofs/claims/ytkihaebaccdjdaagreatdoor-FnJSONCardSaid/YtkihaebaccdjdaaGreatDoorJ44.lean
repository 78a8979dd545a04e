import Derived.Test.YtkihaebaccdjdaaGreatDoorJ30
import Derived.Test.YtkihaebaccdjdaaGreatDoorJ39
import Derived.Test.YtkihaebaccdjdaaGreatDoorJ43
set_option linter.unusedVariables false
set_option linter.unusedSimpArgs false
namespace Go.Proofs.YtkihaebaccdjdaaGreatDoor
open Go.RowKit Go.Proofs.YtkihaebaccdjdaaGreatDoorW.PrintWords Go.Proofs.YtkihaebaccdjdaaGreatDoorW.PrintLast Go.Proofs.YtkihaebaccdjdaaGreatDoorW.PrintMore
open PX
namespace H
/-! ### reader.value of a text, of base 64 -/
theorem inv0 (w0 : World) (t it kn vn : ByteArray) (num : Int) (names : List ByteArray) (kids : List S28) (fl : List Bool) (at' : List S45) (ht : t.size ≤ 20000) (hu : U8 (fun _ => true) (bytesOf t)) : InV w0 ⟨0, t, num, names, kids, fl, it, kn, vn, at'⟩ ([34] ++ esc decL t.size (bytesOf t) ++ [34]) := by
  intro p g w s l hN hI hB hs hst
  have hr := (esc_good hu t.size (by rw [bytesOf_length]; omega)).2
  obtain ⟨s', hf, hs'⟩ := text_f hr (s := s) (l := l) (by rw [hs]; simp) (by rw [bytesOf_length]; omega) ((esc decL t.size (bytesOf t)).length + 14) (Nat.le_refl _)
  rw [nums_bytes] at hf
  refine (valT 0 t num it kn vn p.a3 p.a4 p.a5 p.a9 names.length kids.length fl.length at'.length p.c3 p.c4 p.c5 p.c9 w0 w (.inl rfl) (fun w => text0 t num w) hI hB hf).mono ?_
  rintro e w' ⟨rfl, h1, h2, h3⟩
  exact ⟨rfl, s', hs', h1, h2, h3⟩
theorem sig_rng (x : Int) (h0 : 0 ≤ x) (h1 : x < 64) : 43 ≤ sig x ∧ sig x ≤ 122 ∧ sig x ≠ 92 := by
  obtain ⟨n, rfl⟩ := Int.eq_ofNat_of_zero_le h0
  have key : ∀ n : Fin 64, 43 ≤ sig (n.val : Int) ∧ sig (n.val : Int) ≤ 122 ∧ sig (n.val : Int) ≠ 92 := by decide
  exact key ⟨n, by omega⟩
theorem b64n_rng (s : ByteArray) : ∀ r, ∀ x ∈ b64n s r, 43 ≤ x ∧ x ≤ 122 ∧ x ≠ 92
  | 0, x, h => by cases h
  | r + 1, x, h => by
    rcases List.mem_append.1 h with h | h
    · exact b64n_rng s r x h
    · unfold grp at h
      simp only [List.mem_cons, List.not_mem_nil, or_false] at h
      rcases h with rfl | rfl | h | h
      · exact sig_rng _ (by omega) (by omega)
      · exact sig_rng _ (by omega) (by omega)
      · rw [h]; split
        · exact sig_rng _ (by omega) (by omega)
        · omega
      · rw [h]; split
        · exact sig_rng _ (by omega) (by omega)
        · omega
theorem b64_bytes (s : ByteArray) : bytesOf (b64 s) = b64n s ((s.size + 2) / 3) := bytes_nums _ (fun x hx => by have := b64n_rng s _ x hx; omega)
theorem b64_rng (s : ByteArray) : ∀ x ∈ bytesOf (b64 s), 43 ≤ x ∧ x ≤ 122 ∧ x ≠ 92 := by rw [b64_bytes]; exact b64n_rng s _
theorem b64_size (s : ByteArray) : (b64 s).size = 4 * ((s.size + 2) / 3) := by rw [← bytesOf_length, b64_bytes, b64n_len]
theorem inv6 (w0 : World) (t it kn vn : ByteArray) (num : Int) (names : List ByteArray) (kids : List S28) (fl : List Bool) (at' : List S45) (ht : t.size ≤ 20000) (hn0 : -9223372036854775808 ≤ num) (hn1 : num ≤ 9223372036854775807) : InV w0 ⟨6, t, num, names, kids, fl, it, kn, vn, at'⟩ ([34] ++ bytesOf (b64 t) ++ [34]) := by
  intro p g w s l hN hI hB hs hst
  have hr : Read1 (bytesOf (b64 t)) (bytesOf (b64 t)) := by
    have := Read1.nil.plains (bytesOf (b64 t)) (fun c hc => by have := b64_rng t c hc; omega)
    simpa using this
  obtain ⟨s', hf, hs'⟩ := text_f hr (s := s) (l := l) (by rw [hs]; simp) (by rw [bytesOf_length, b64_size]; omega) ((bytesOf (b64 t)).length + 14) (Nat.le_refl _)
  rw [nums_bytes] at hf
  refine (valT 6 t num it kn vn p.a3 p.a4 p.a5 p.a9 names.length kids.length fl.length at'.length p.c3 p.c4 p.c5 p.c9 w0 w (.inr rfl) (fun w => text_call 6 t num w (by omega) hn0 hn1) hI hB hf).mono ?_
  rintro e w' ⟨rfl, h1, h2, h3⟩
  exact ⟨rfl, s', hs', h1, h2, h3⟩
/-! ### reader.value of objects, maps, lists -/
theorem jm_split (dec : List Int → Int × Nat) (f : S28 → List Int) (names : List ByteArray) (kids : List S28) {i n : Nat} (h1 : 1 ≤ i) (h : i ≤ n) : ∃ rest, jm dec f names kids n = jm dec f names kids i ++ rest ∧ (rest = [] ∨ ∃ t, rest = 44 :: t) := by
  induction n with
  | zero => omega
  | succ n ih =>
    by_cases hi : i = n + 1
    · rw [hi]; exact ⟨[], by simp, .inl rfl⟩
    · obtain ⟨rest, e, hr⟩ := ih (by omega)
      refine ⟨rest ++ (((if n = 0 then [] else [44]) ++ ([34] ++ esc dec (names.getD n ByteArray.empty).size (bytesOf (names.getD n ByteArray.empty)) ++ [34] ++ [58])) ++ f (kids.getD n z28)), by rw [jm, e, List.append_assoc], ?_⟩
      right
      rcases hr with rfl | ⟨t, rfl⟩
      · rw [if_neg (by omega)]; exact ⟨_, rfl⟩
      · exact ⟨_, rfl⟩
theorem je_split (f : S28 → List Int) (kids : List S28) {i n : Nat} (h1 : 1 ≤ i) (h : i ≤ n) : ∃ rest, je f kids n = je f kids i ++ rest ∧ (rest = [] ∨ ∃ t, rest = 44 :: t) := by
  induction n with
  | zero => omega
  | succ n ih =>
    by_cases hi : i = n + 1
    · rw [hi]; exact ⟨[], by simp, .inl rfl⟩
    · obtain ⟨rest, e, hr⟩ := ih (by omega)
      refine ⟨rest ++ ((if n = 0 then [] else [44]) ++ f (kids.getD n z28)), by rw [je, e, List.append_assoc], ?_⟩
      right
      rcases hr with rfl | ⟨t, rfl⟩
      · rw [if_neg (by omega)]; exact ⟨_, rfl⟩
      · exact ⟨_, rfl⟩
theorem stop_of {rest l : List Int} {c : Int} (h : rest = [] ∨ ∃ t, rest = 44 :: t) (hc : c = 93 ∨ c = 125) : StopL (rest ++ c :: l) := by
  rcases h with rfl | ⟨t, rfl⟩
  · exact .inr ⟨c, l, rfl, .inr hc⟩
  · exact .inr ⟨44, _, rfl, .inl rfl⟩
set_option maxHeartbeats 8000000 in
set_option maxRecDepth 100000 in
theorem inv7 (w0 : World) {f : S28 → List Int} (t it kn vn : ByteArray) (num : Int) (names : List ByteArray) (kids : List S28) (fl : List Bool) (at' : List S45) (hlen : names.length = kids.length) (hnm : ∀ s ∈ names, s.size ≤ 20000) (hU : ∀ s ∈ names, U8 (fun _ => true) (bytesOf s)) (ih : ∀ y ∈ kids, InV w0 y (f y)) : InV w0 ⟨7, t, num, names, kids, fl, it, kn, vn, at'⟩ ([123] ++ jm decL f names kids kids.length ++ [125]) := by
  intro p g w s l hN hI hB hs hst
  obtain ⟨A3, c3, A4, c4, A5, c5, A9, c9⟩ := p
  obtain ⟨n5, hn5⟩ : ∃ n5, fl.length = n5 := ⟨_, rfl⟩
  obtain ⟨n9, hn9⟩ : ∃ n9, at'.length = n9 := ⟨_, rfl⟩
  unfold NV
  dsimp only
  rw [hn5, hn9]
  clear hn5 hn9
  obtain ⟨s1, htok, hs1⟩ := tokenN (s := s) (t := ⟨#[123]⟩) (c := 123) (r := []) (l := jm decL f names kids kids.length ++ 125 :: l) (by rw [hs]; simp [bytesOf]) (by decide) (by decide) 1
  have hb := below_alloc (Below.refl w.heap.size w) (.cells #[.int .i64 7, .string t, .int .i64 num, .slice A3 names.length c3, .slice A4 kids.length c4, .slice A5 n5 c5, .string it, .string kn, .string vn, .slice A9 n9 c9] 28)
  have hk1 := heap_new w (.cells #[.int .i64 7, .string t, .int .i64 num, .slice A3 names.length c3, .slice A4 kids.length c4, .slice A5 n5 c5, .string it, .string kn, .string vn, .slice A9 n9 c9] 28)
  have hI1 := Aside0.mk (hI.below hb)
  have hB1 := Aside0.mk (hB.trans (below_low hb (IsS80.ge hI) (IsS80.lt hI)))
  have hK1 := Aside0.mk (KeepBut.of_below hb g none)
  have hgn : Aside0 (w.heap.size ≠ g) := .mk (by have := IsS80.lt hI; omega)
  replace hN := Aside0.mk hN; replace ih := Aside0.mk ih; replace htok := Aside0.mk htok; replace hs1 := Aside0.mk hs1; replace hst := Aside0.mk hst; replace hlen := Aside0.mk hlen; replace hnm := Aside0.mk hnm; replace hU := Aside0.mk hU
  clear hI hB hb hs
  go_enter Tryz.func36, Tryz.ntmps36
  go_wp2_with fail
  generalize w.alloc (.cells #[.int .i64 7, .string t, .int .i64 num, .slice A3 names.length c3, .slice A4 kids.length c4, .slice A5 n5 c5, .string it, .string kn, .string vn, .slice A9 n9 c9] 28) = w1 at *
  obtain ⟨nd, hnd⟩ : ∃ nd, w.heap.size = nd := ⟨_, rfl⟩
  rw [hnd] at hk1 hgn ⊢
  replace hk1 := Aside0.mk hk1; replace hnd := Aside0.mk hnd
  refine (spec_reader_token.calls _ g s false _ s1 false w0 w1 hI1.out hB1.out htok.out).mono ?_
  rintro e w2 ⟨rfl, hI2, hB2, hK2⟩
  have hn2 := hK2.2 nd (lt_of hk1.out) hgn.out (by simp)
  replace hn2 := Aside0.mk (hn2.trans hk1.out)
  replace hI2 := Aside0.mk hI2; replace hB2 := Aside0.mk hB2; replace hK2 := Aside0.mk (hK1.out.trans hK2 (.inl rfl))
  clear hI1 hB1 hK1 hk1 htok
  have m4 := cell_at hn2.out 4
  simp at m4
  have hmx := Aside0.mk (Kd.C_max hN.out.h4)
  go_wp2_with fail
  go_loopg [63] kids.length (fun q v63 w' => ∃ (i : Nat) (si : ByteArray), v63 = .int .i64 (i : Int) ∧ q + i = kids.length ∧ Aside0 (IsS80 w0 w' g si false) ∧ Aside0 (Below w0.heap.size w0 w') ∧ Aside0 (KeepBut w w' g none) ∧ Aside0 (w'.heap[nd]? = some (.cells #[.int .i64 7, .string t, .int .i64 num, .slice A3 names.length c3, .slice A4 kids.length c4, .slice A5 n5 c5, .string it, .string kn, .string vn, .slice A9 n9 c9] 28 (0, 0))) ∧ Aside0 (∃ rest, jm decL f names kids kids.length = jm decL f names kids i ++ rest ∧ bytesOf si = rest ++ 125 :: l))
  case atStart => exact ⟨0, s1, rfl, by omega, hI2, hB2, hK2, hn2, .mk ⟨_, by simp [jm], hs1.out⟩⟩
  case round =>
    clear m4 hI2 hB2 hK2 hn2
    obtain ⟨i, si, rfl, hq, hI4, hB4, hK4, hn4, hrs⟩ := hrel
    have hi0 : ((0 : Int) ≤ (i : Int)) = True := eq_true (by omega)
    by_cases hi : i < kids.length
    · have hi1 : ((i : Int) < (kids.length : Int)) = True := eq_true (by omega)
      have e6 : IntKind.i64.wrap ((i : Int) + 1) = (i : Int) + 1 := w64i _ (by omega) (by have := hmx.out; omega)
      obtain ⟨ad, qy, hA, kc0, hNq⟩ := hN.out.kid i hi
      dsimp only at hA
      subst hA
      dsimp only at kc0 hNq
      have hyk : kids.getD i z28 ∈ kids := getD_mem z28 hi
      obtain ⟨rest, hr1, hr2⟩ := hrs.out
      obtain ⟨rest', hr3, hr4⟩ := jm_split decL f names kids (show 1 ≤ i + 1 by omega) (show i + 1 ≤ kids.length by omega)
      have hjn : jm decL f names kids (i + 1) = jm decL f names kids i ++ (((if i = 0 then [] else [44]) ++ ([34] ++ esc decL (names.getD i ByteArray.empty).size (bytesOf (names.getD i ByteArray.empty)) ++ [34] ++ [58])) ++ f (kids.getD i z28)) := rfl
      have hrn : Aside0 (jm decL f names kids kids.length = jm decL f names kids (i + 1) ++ rest') := .mk hr3
      rw [hjn, List.append_assoc] at hr3
      have hrest : Aside0 (rest = (((if i = 0 then [] else [44]) ++ ([34] ++ esc decL (names.getD i ByteArray.empty).size (bytesOf (names.getD i ByteArray.empty)) ++ [34] ++ [58])) ++ f (kids.getD i z28)) ++ rest') := .mk (List.append_cancel_left (hr1.symm.trans hr3))
      have hsi : Aside0 (bytesOf si = rest ++ 125 :: l) := .mk hr2
      have hstp := Aside0.mk (stop_of (l := l) (c := 125) hr4 (by decide))
      clear hr1 hr2 hr3 hr4 hjn hrs
      obtain ⟨y, hy⟩ : ∃ y, kids.getD i z28 = y := ⟨_, rfl⟩
      rw [hy] at kc0 hNq hyk hrest
      obtain ⟨an, hA3, hc0⟩ := hN.out.name i (by show i < names.length; have := hlen.out; omega)
      dsimp only at hA3
      subst hA3
      dsimp only at hc0
      have hni := getD_mem ByteArray.empty (show i < names.length by have := hlen.out; omega)
      obtain ⟨sn, hsn⟩ : ∃ sn, names.getD i ByteArray.empty = sn := ⟨_, rfl⟩
      rw [hsn] at hc0 hrest hni
      have hns := hnm.out _ hni
      have hread := Aside0.mk (esc_good (hU.out _ hni) sn.size (by rw [bytesOf_length]; omega)).2
      have hi2 : ((i : Int) < (names.length : Int)) = True := eq_true (by have := hlen.out; omega)
      replace hc0 := Aside0.mk hc0; replace hsn := Aside0.mk hsn
      clear hni
      obtain ⟨B3, d3, B4, d4, B5, d5, B9, d9⟩ := qy
      obtain ⟨y0, y1, y2, y3, y4, y5, y6, y7, y8, y9⟩ := kc0.below hB4.out
      dsimp only at y0 y1 y2 y3 y4 y5 y6 y7 y8 y9
      have hbk := below_alloc (Below.refl wr.heap.size wr) (.cells #[.int .i64 y.f0, .string y.f1, .int .i64 y.f2, .slice B3 y.f3.length d3, .slice B4 y.f4.length d4, .slice B5 y.f5.length d5, .string y.f6, .string y.f7, .string y.f8, .slice B9 y.f9.length d9] 28)
      have ha5 := Aside0.mk (heap_new wr (.cells #[.int .i64 y.f0, .string y.f1, .int .i64 y.f2, .slice B3 y.f3.length d3, .slice B4 y.f4.length d4, .slice B5 y.f5.length d5, .string y.f6, .string y.f7, .string y.f8, .slice B9 y.f9.length d9] 28))
      have hI5 := Aside0.mk (hI4.out.below hbk)
      have hB5 := Aside0.mk (hB4.out.trans (below_low hbk (IsS80.ge hI4.out) (IsS80.lt hI4.out)))
      have hK5 := Aside0.mk (hK4.out.trans (KeepBut.of_below hbk g none) (.inl rfl))
      have hn5 := Aside0.mk (heap_below hbk hn4.out)
      have hgna : Aside0 (wr.heap.size ≠ g) := .mk (by have := IsS80.lt hI4.out; omega)
      replace hNq := Aside0.mk hNq; replace hyk := Aside0.mk hyk; replace hy := Aside0.mk hy
      clear hbk kc0 hI4 hB4 hK4 hn4
      skip
      by_cases h0 : i = 0
      · have hg0 : ((0 : Int) < (i : Int)) = False := eq_false (by omega)
        have hg1 : (0 < i) = False := eq_false (by omega)
        replace h0 := Aside0.mk h0
        go_wp2_with fail
        generalize wr.alloc (.cells #[.int .i64 y.f0, .string y.f1, .int .i64 y.f2, .slice B3 y.f3.length d3, .slice B4 y.f4.length d4, .slice B5 y.f5.length d5, .string y.f6, .string y.f7, .string y.f8, .slice B9 y.f9.length d9] 28) = w5 at *
        obtain ⟨na, hna⟩ : ∃ na, wr.heap.size = na := ⟨_, rfl⟩
        rw [hna] at ha5 hgna ⊢
        replace hna := Aside0.mk hna
        clear y0 y1 y2 y3 y4 y5 y6 y7 y8 y9
        have hs2 : Aside0 (bytesOf si = [34] ++ esc decL sn.size (bytesOf sn) ++ [34] ++ [58] ++ f y ++ (rest' ++ 125 :: l)) := .mk (by rw [hsi.out, hrest.out, if_pos h0.out]; simp)
        obtain ⟨s3, htx, hs3⟩ := text_f hread.out (s := si) (l := 58 :: (f y ++ (rest' ++ 125 :: l))) (by rw [hs2.out]; simp) (by rw [bytesOf_length]; omega) ((esc decL sn.size (bytesOf sn)).length + 14) (Nat.le_refl _)
        rw [nums_bytes] at htx
        obtain ⟨s4, htk4, hs4⟩ := tokenN (s := s3) (t := ⟨#[58]⟩) (c := 58) (r := []) (l := f y ++ (rest' ++ 125 :: l)) (by rw [hs3]; simp [bytesOf]) (by decide) (by decide) 1
        replace htx := Aside0.mk htx; replace htk4 := Aside0.mk htk4; replace hs4 := Aside0.mk hs4
        clear hs3
        have u1 := cellS80_1 hI5.out.1
        have m3 := cell_at hn5.out 3
        simp at m3
        have hcn := cell_below hB5.out hc0.out
        go_region_held3 (fun w' => w'.cell? ⟨g, 1, none⟩ = some (.bool false) ∧ w'.cell? ⟨nd, 3, none⟩ = some (.slice (some an) names.length c3) ∧ w'.cell? (an.add i) = some (.string sn)) (simp [*, World.cell?_setCell_far]) ((go_at_call 84; refine (spec_reader_text.calls _ g si false sn s3 false w0 _ hI5.out.drew (hB5.out.trans (drewB0 _ _)) htx.out).mono ?_; rintro e w7 ⟨rfl, hI7, hB7, hK7⟩; have hn7 := Aside0.mk ((hK7.2 nd (lt_of hn5.out) hgn.out (by simp)).trans hn5.out); have ha7 := Aside0.mk ((hK7.2 na (lt_of ha5.out) hgna.out (by simp)).trans ha5.out); have v1 := cellS80_1 hI7.1; have v3 := cell_at hn7.out 3; simp at v3; have hcn7 := cell_below hB7 hc0.out; replace hI7 := Aside0.mk hI7; replace hB7 := Aside0.mk hB7; replace hK7 := Aside0.mk (hK5.out.trans (keep_undrew hK7) (.inl rfl))))
        all_goals
          go_wp2_with fail
          refine (spec_reader_token.calls _ g s3 false _ s4 false w0 w7 hI7.out hB7.out htk4.out).mono ?_
          rintro e w8 ⟨rfl, hI8, hB8, hK8⟩
          have hn8 := Aside0.mk ((hK8.2 nd (lt_of hn7.out) hgn.out (by simp)).trans hn7.out)
          have ha8 := Aside0.mk ((hK8.2 na (lt_of ha7.out) hgna.out (by simp)).trans ha7.out)
          replace hI8 := Aside0.mk hI8; replace hB8 := Aside0.mk hB8; replace hK8 := Aside0.mk (hK7.out.trans hK8 (.inl rfl))
          clear hI7 hB7 hK7 hn7 ha7
          have y0 := cell_at ha8.out 0; have y1 := cell_at ha8.out 1; have y2 := cell_at ha8.out 2; have y3 := cell_at ha8.out 3; have y4 := cell_at ha8.out 4; have y5 := cell_at ha8.out 5; have y6 := cell_at ha8.out 6; have y7 := cell_at ha8.out 7; have y8 := cell_at ha8.out 8; have y9 := cell_at ha8.out 9
          simp at y0 y1 y2 y3 y4 y5 y6 y7 y8 y9
          go_wp2_with fail
          refine (ih.out y hyk.out ⟨B3, d3, B4, d4, B5, d5, B9, d9⟩ g w8 s4 (rest' ++ 125 :: l) hNq.out hI8.out hB8.out hs4.out hstp.out).mono ?_
          rintro e w9 ⟨rfl, s9, hs9, hI9, hB9, hK9⟩
          have hn9 := Aside0.mk ((hK9.2 nd (lt_of hn8.out) hgn.out (by simp)).trans hn8.out)
          replace hI9 := Aside0.mk hI9; replace hB9 := Aside0.mk hB9; replace hK9 := Aside0.mk (hK8.out.trans hK9 (.inl rfl))
          clear y0 y1 y2 y3 y4 y5 y6 y7 y8 y9
          go_wp2_with fail
          go_roundg (kids.length - (i + 1))
          case rel => exact ⟨i + 1, s9, by push_cast; first | rfl | simp, by omega, hI9, hB9, hK9, hn9, .mk ⟨rest', hrn.out, hs9⟩⟩
          case measure => omega
      · have hg0 : ((0 : Int) < (i : Int)) = True := eq_true (by omega)
        have hg1 : (0 < i) = True := eq_true (by omega)
        go_wp2_with fail
        generalize wr.alloc (.cells #[.int .i64 y.f0, .string y.f1, .int .i64 y.f2, .slice B3 y.f3.length d3, .slice B4 y.f4.length d4, .slice B5 y.f5.length d5, .string y.f6, .string y.f7, .string y.f8, .slice B9 y.f9.length d9] 28) = w5 at *
        obtain ⟨na, hna⟩ : ∃ na, wr.heap.size = na := ⟨_, rfl⟩
        rw [hna] at ha5 hgna ⊢
        replace hna := Aside0.mk hna
        clear y0 y1 y2 y3 y4 y5 y6 y7 y8 y9
        obtain ⟨s2, htk, hs2⟩ := tokenN (s := si) (t := ⟨#[44]⟩) (c := 44) (r := []) (l := [34] ++ esc decL sn.size (bytesOf sn) ++ [34] ++ [58] ++ f y ++ (rest' ++ 125 :: l)) (by rw [hsi.out, hrest.out, if_neg h0]; simp [bytesOf]) (by decide) (by decide) 1
        replace htk := Aside0.mk htk; replace hs2 := Aside0.mk hs2
        refine (spec_reader_token.calls _ g si false _ s2 false w0 w5 hI5.out hB5.out htk.out).mono ?_
        rintro e w6 ⟨rfl, hI6, hB6, hK6⟩
        have hn6 := Aside0.mk ((hK6.2 nd (lt_of hn5.out) hgn.out (by simp)).trans hn5.out)
        have ha6 := Aside0.mk ((hK6.2 na (lt_of ha5.out) hgna.out (by simp)).trans ha5.out)
        replace hI6 := Aside0.mk hI6; replace hB6 := Aside0.mk hB6; replace hK6 := Aside0.mk (hK5.out.trans hK6 (.inl rfl))
        clear hI5 hB5 hK5 hn5 ha5 htk
        go_wp2_with fail
        obtain ⟨s3, htx, hs3⟩ := text_f hread.out (s := s2) (l := 58 :: (f y ++ (rest' ++ 125 :: l))) (by rw [hs2.out]; simp) (by rw [bytesOf_length]; omega) ((esc decL sn.size (bytesOf sn)).length + 14) (Nat.le_refl _)
        rw [nums_bytes] at htx
        obtain ⟨s4, htk4, hs4⟩ := tokenN (s := s3) (t := ⟨#[58]⟩) (c := 58) (r := []) (l := f y ++ (rest' ++ 125 :: l)) (by rw [hs3]; simp [bytesOf]) (by decide) (by decide) 1
        replace htx := Aside0.mk htx; replace htk4 := Aside0.mk htk4; replace hs4 := Aside0.mk hs4
        clear hs3
        have u1 := cellS80_1 hI6.out.1
        have m3 := cell_at hn6.out 3
        simp at m3
        have hcn := cell_below hB6.out hc0.out
        go_region_held3 (fun w' => w'.cell? ⟨g, 1, none⟩ = some (.bool false) ∧ w'.cell? ⟨nd, 3, none⟩ = some (.slice (some an) names.length c3) ∧ w'.cell? (an.add i) = some (.string sn)) (simp [*, World.cell?_setCell_far]) ((go_at_call 84; refine (spec_reader_text.calls _ g s2 false sn s3 false w0 _ hI6.out.drew (hB6.out.trans (drewB0 _ _)) htx.out).mono ?_; rintro e w7 ⟨rfl, hI7, hB7, hK7⟩; have hn7 := Aside0.mk ((hK7.2 nd (lt_of hn6.out) hgn.out (by simp)).trans hn6.out); have ha7 := Aside0.mk ((hK7.2 na (lt_of ha6.out) hgna.out (by simp)).trans ha6.out); have v1 := cellS80_1 hI7.1; have v3 := cell_at hn7.out 3; simp at v3; have hcn7 := cell_below hB7 hc0.out; replace hI7 := Aside0.mk hI7; replace hB7 := Aside0.mk hB7; replace hK7 := Aside0.mk (hK6.out.trans (keep_undrew hK7) (.inl rfl))))
        all_goals
          go_wp2_with fail
          refine (spec_reader_token.calls _ g s3 false _ s4 false w0 w7 hI7.out hB7.out htk4.out).mono ?_
          rintro e w8 ⟨rfl, hI8, hB8, hK8⟩
          have hn8 := Aside0.mk ((hK8.2 nd (lt_of hn7.out) hgn.out (by simp)).trans hn7.out)
          have ha8 := Aside0.mk ((hK8.2 na (lt_of ha7.out) hgna.out (by simp)).trans ha7.out)
          replace hI8 := Aside0.mk hI8; replace hB8 := Aside0.mk hB8; replace hK8 := Aside0.mk (hK7.out.trans hK8 (.inl rfl))
          clear hI7 hB7 hK7 hn7 ha7
          have y0 := cell_at ha8.out 0; have y1 := cell_at ha8.out 1; have y2 := cell_at ha8.out 2; have y3 := cell_at ha8.out 3; have y4 := cell_at ha8.out 4; have y5 := cell_at ha8.out 5; have y6 := cell_at ha8.out 6; have y7 := cell_at ha8.out 7; have y8 := cell_at ha8.out 8; have y9 := cell_at ha8.out 9
          simp at y0 y1 y2 y3 y4 y5 y6 y7 y8 y9
          go_wp2_with fail
          refine (ih.out y hyk.out ⟨B3, d3, B4, d4, B5, d5, B9, d9⟩ g w8 s4 (rest' ++ 125 :: l) hNq.out hI8.out hB8.out hs4.out hstp.out).mono ?_
          rintro e w9 ⟨rfl, s9, hs9, hI9, hB9, hK9⟩
          have hn9 := Aside0.mk ((hK9.2 nd (lt_of hn8.out) hgn.out (by simp)).trans hn8.out)
          replace hI9 := Aside0.mk hI9; replace hB9 := Aside0.mk hB9; replace hK9 := Aside0.mk (hK8.out.trans hK9 (.inl rfl))
          clear y0 y1 y2 y3 y4 y5 y6 y7 y8 y9
          go_wp2_with fail
          go_roundg (kids.length - (i + 1))
          case rel => exact ⟨i + 1, s9, by push_cast; first | rfl | simp, by omega, hI9, hB9, hK9, hn9, .mk ⟨rest', hrn.out, hs9⟩⟩
          case measure => omega
    · have hi1 : ((i : Int) < (kids.length : Int)) = False := eq_false (by omega)
      obtain rfl : i = kids.length := by omega
      obtain ⟨rest, hr1, hr2⟩ := hrs.out
      skip
      have hre : rest = [] := by
        have := congrArg List.length hr1
        rw [List.length_append] at this
        exact List.eq_nil_of_length_eq_zero (by omega)
      rw [hre, List.nil_append] at hr2
      obtain ⟨s5, htk, hs5⟩ := tokenN (s := si) (t := ⟨#[125]⟩) (c := 125) (r := []) (l := l) (by rw [hr2]; simp [bytesOf]) (by decide) (by decide) 1
      replace htk := Aside0.mk htk; replace hs5 := Aside0.mk hs5
      clear hr1 hr2 hre hrs
      go_wp2_with fail
      refine (spec_reader_token.calls _ g si false _ s5 false w0 wr hI4.out hB4.out htk.out).mono ?_
      rintro e w6 ⟨rfl, hI6, hB6, hK6⟩
      replace hI6 := Aside0.mk hI6; replace hB6 := Aside0.mk hB6; replace hK6 := Aside0.mk (hK4.out.trans hK6 (.inl rfl))
      go_wp2
      refine bodyPost_end (results_none rfl _ _ _) rfl ?_
      exact ⟨rfl, s5, hs5.out, hI6.out, hB6.out, hK6.out⟩
set_option maxHeartbeats 8000000 in
set_option maxRecDepth 100000 in
theorem inv9 (w0 : World) {f : S28 → List Int} (t it kn vn : ByteArray) (num : Int) (names : List ByteArray) (kids : List S28) (fl : List Bool) (at' : List S45) (hlen : names.length = kids.length) (hnm : ∀ s ∈ names, s.size ≤ 20000) (hU : ∀ s ∈ names, U8 (fun _ => true) (bytesOf s)) (ih : ∀ y ∈ kids, InV w0 y (f y)) : InV w0 ⟨9, t, num, names, kids, fl, it, kn, vn, at'⟩ ([123] ++ jm decL f names kids kids.length ++ [125]) := by
  intro p g w s l hN hI hB hs hst
  obtain ⟨A3, c3, A4, c4, A5, c5, A9, c9⟩ := p
  obtain ⟨n5, hn5⟩ : ∃ n5, fl.length = n5 := ⟨_, rfl⟩
  obtain ⟨n9, hn9⟩ : ∃ n9, at'.length = n9 := ⟨_, rfl⟩
  unfold NV
  dsimp only
  rw [hn5, hn9]
  clear hn5 hn9
  obtain ⟨s1, htok, hs1⟩ := tokenN (s := s) (t := ⟨#[123]⟩) (c := 123) (r := []) (l := jm decL f names kids kids.length ++ 125 :: l) (by rw [hs]; simp [bytesOf]) (by decide) (by decide) 1
  have hb := below_alloc (Below.refl w.heap.size w) (.cells #[.int .i64 9, .string t, .int .i64 num, .slice A3 names.length c3, .slice A4 kids.length c4, .slice A5 n5 c5, .string it, .string kn, .string vn, .slice A9 n9 c9] 28)
  have hk1 := heap_new w (.cells #[.int .i64 9, .string t, .int .i64 num, .slice A3 names.length c3, .slice A4 kids.length c4, .slice A5 n5 c5, .string it, .string kn, .string vn, .slice A9 n9 c9] 28)
  have hI1 := Aside0.mk (hI.below hb)
  have hB1 := Aside0.mk (hB.trans (below_low hb (IsS80.ge hI) (IsS80.lt hI)))
  have hK1 := Aside0.mk (KeepBut.of_below hb g none)
  have hgn : Aside0 (w.heap.size ≠ g) := .mk (by have := IsS80.lt hI; omega)
  replace hN := Aside0.mk hN; replace ih := Aside0.mk ih; replace htok := Aside0.mk htok; replace hs1 := Aside0.mk hs1; replace hst := Aside0.mk hst; replace hlen := Aside0.mk hlen; replace hnm := Aside0.mk hnm; replace hU := Aside0.mk hU
  clear hI hB hb hs
  go_enter Tryz.func36, Tryz.ntmps36
  go_wp2_with fail
  generalize w.alloc (.cells #[.int .i64 9, .string t, .int .i64 num, .slice A3 names.length c3, .slice A4 kids.length c4, .slice A5 n5 c5, .string it, .string kn, .string vn, .slice A9 n9 c9] 28) = w1 at *
  obtain ⟨nd, hnd⟩ : ∃ nd, w.heap.size = nd := ⟨_, rfl⟩
  rw [hnd] at hk1 hgn ⊢
  replace hk1 := Aside0.mk hk1; replace hnd := Aside0.mk hnd
  refine (spec_reader_token.calls _ g s false _ s1 false w0 w1 hI1.out hB1.out htok.out).mono ?_
  rintro e w2 ⟨rfl, hI2, hB2, hK2⟩
  have hn2 := hK2.2 nd (lt_of hk1.out) hgn.out (by simp)
  replace hn2 := Aside0.mk (hn2.trans hk1.out)
  replace hI2 := Aside0.mk hI2; replace hB2 := Aside0.mk hB2; replace hK2 := Aside0.mk (hK1.out.trans hK2 (.inl rfl))
  clear hI1 hB1 hK1 hk1 htok
  have m4 := cell_at hn2.out 4
  simp at m4
  have hmx := Aside0.mk (Kd.C_max hN.out.h4)
  go_wp2_with fail
  go_loopg [63] kids.length (fun q v63 w' => ∃ (i : Nat) (si : ByteArray), v63 = .int .i64 (i : Int) ∧ q + i = kids.length ∧ Aside0 (IsS80 w0 w' g si false) ∧ Aside0 (Below w0.heap.size w0 w') ∧ Aside0 (KeepBut w w' g none) ∧ Aside0 (w'.heap[nd]? = some (.cells #[.int .i64 9, .string t, .int .i64 num, .slice A3 names.length c3, .slice A4 kids.length c4, .slice A5 n5 c5, .string it, .string kn, .string vn, .slice A9 n9 c9] 28 (0, 0))) ∧ Aside0 (∃ rest, jm decL f names kids kids.length = jm decL f names kids i ++ rest ∧ bytesOf si = rest ++ 125 :: l))
  case atStart => exact ⟨0, s1, rfl, by omega, hI2, hB2, hK2, hn2, .mk ⟨_, by simp [jm], hs1.out⟩⟩
  case round =>
    clear m4 hI2 hB2 hK2 hn2
    obtain ⟨i, si, rfl, hq, hI4, hB4, hK4, hn4, hrs⟩ := hrel
    have hi0 : ((0 : Int) ≤ (i : Int)) = True := eq_true (by omega)
    by_cases hi : i < kids.length
    · have hi1 : ((i : Int) < (kids.length : Int)) = True := eq_true (by omega)
      have e6 : IntKind.i64.wrap ((i : Int) + 1) = (i : Int) + 1 := w64i _ (by omega) (by have := hmx.out; omega)
      obtain ⟨ad, qy, hA, kc0, hNq⟩ := hN.out.kid i hi
      dsimp only at hA
      subst hA
      dsimp only at kc0 hNq
      have hyk : kids.getD i z28 ∈ kids := getD_mem z28 hi
      obtain ⟨rest, hr1, hr2⟩ := hrs.out
      obtain ⟨rest', hr3, hr4⟩ := jm_split decL f names kids (show 1 ≤ i + 1 by omega) (show i + 1 ≤ kids.length by omega)
      have hjn : jm decL f names kids (i + 1) = jm decL f names kids i ++ (((if i = 0 then [] else [44]) ++ ([34] ++ esc decL (names.getD i ByteArray.empty).size (bytesOf (names.getD i ByteArray.empty)) ++ [34] ++ [58])) ++ f (kids.getD i z28)) := rfl
      have hrn : Aside0 (jm decL f names kids kids.length = jm decL f names kids (i + 1) ++ rest') := .mk hr3
      rw [hjn, List.append_assoc] at hr3
      have hrest : Aside0 (rest = (((if i = 0 then [] else [44]) ++ ([34] ++ esc decL (names.getD i ByteArray.empty).size (bytesOf (names.getD i ByteArray.empty)) ++ [34] ++ [58])) ++ f (kids.getD i z28)) ++ rest') := .mk (List.append_cancel_left (hr1.symm.trans hr3))
      have hsi : Aside0 (bytesOf si = rest ++ 125 :: l) := .mk hr2
      have hstp := Aside0.mk (stop_of (l := l) (c := 125) hr4 (by decide))
      clear hr1 hr2 hr3 hr4 hjn hrs
      obtain ⟨y, hy⟩ : ∃ y, kids.getD i z28 = y := ⟨_, rfl⟩
      rw [hy] at kc0 hNq hyk hrest
      obtain ⟨an, hA3, hc0⟩ := hN.out.name i (by show i < names.length; have := hlen.out; omega)
      dsimp only at hA3
      subst hA3
      dsimp only at hc0
      have hni := getD_mem ByteArray.empty (show i < names.length by have := hlen.out; omega)
      obtain ⟨sn, hsn⟩ : ∃ sn, names.getD i ByteArray.empty = sn := ⟨_, rfl⟩
      rw [hsn] at hc0 hrest hni
      have hns := hnm.out _ hni
      have hread := Aside0.mk (esc_good (hU.out _ hni) sn.size (by rw [bytesOf_length]; omega)).2
      have hi2 : ((i : Int) < (names.length : Int)) = True := eq_true (by have := hlen.out; omega)
      replace hc0 := Aside0.mk hc0; replace hsn := Aside0.mk hsn
      clear hni
      obtain ⟨B3, d3, B4, d4, B5, d5, B9, d9⟩ := qy
      obtain ⟨y0, y1, y2, y3, y4, y5, y6, y7, y8, y9⟩ := kc0.below hB4.out
      dsimp only at y0 y1 y2 y3 y4 y5 y6 y7 y8 y9
      have hbk := below_alloc (Below.refl wr.heap.size wr) (.cells #[.int .i64 y.f0, .string y.f1, .int .i64 y.f2, .slice B3 y.f3.length d3, .slice B4 y.f4.length d4, .slice B5 y.f5.length d5, .string y.f6, .string y.f7, .string y.f8, .slice B9 y.f9.length d9] 28)
      have ha5 := Aside0.mk (heap_new wr (.cells #[.int .i64 y.f0, .string y.f1, .int .i64 y.f2, .slice B3 y.f3.length d3, .slice B4 y.f4.length d4, .slice B5 y.f5.length d5, .string y.f6, .string y.f7, .string y.f8, .slice B9 y.f9.length d9] 28))
      have hI5 := Aside0.mk (hI4.out.below hbk)
      have hB5 := Aside0.mk (hB4.out.trans (below_low hbk (IsS80.ge hI4.out) (IsS80.lt hI4.out)))
      have hK5 := Aside0.mk (hK4.out.trans (KeepBut.of_below hbk g none) (.inl rfl))
      have hn5 := Aside0.mk (heap_below hbk hn4.out)
      have hgna : Aside0 (wr.heap.size ≠ g) := .mk (by have := IsS80.lt hI4.out; omega)
      replace hNq := Aside0.mk hNq; replace hyk := Aside0.mk hyk; replace hy := Aside0.mk hy
      clear hbk kc0 hI4 hB4 hK4 hn4
      skip
      by_cases h0 : i = 0
      · have hg0 : ((0 : Int) < (i : Int)) = False := eq_false (by omega)
        have hg1 : (0 < i) = False := eq_false (by omega)
        replace h0 := Aside0.mk h0
        go_wp2_with fail
        generalize wr.alloc (.cells #[.int .i64 y.f0, .string y.f1, .int .i64 y.f2, .slice B3 y.f3.length d3, .slice B4 y.f4.length d4, .slice B5 y.f5.length d5, .string y.f6, .string y.f7, .string y.f8, .slice B9 y.f9.length d9] 28) = w5 at *
        obtain ⟨na, hna⟩ : ∃ na, wr.heap.size = na := ⟨_, rfl⟩
        rw [hna] at ha5 hgna ⊢
        replace hna := Aside0.mk hna
        clear y0 y1 y2 y3 y4 y5 y6 y7 y8 y9
        have hs2 : Aside0 (bytesOf si = [34] ++ esc decL sn.size (bytesOf sn) ++ [34] ++ [58] ++ f y ++ (rest' ++ 125 :: l)) := .mk (by rw [hsi.out, hrest.out, if_pos h0.out]; simp)
        obtain ⟨s3, htx, hs3⟩ := text_f hread.out (s := si) (l := 58 :: (f y ++ (rest' ++ 125 :: l))) (by rw [hs2.out]; simp) (by rw [bytesOf_length]; omega) ((esc decL sn.size (bytesOf sn)).length + 14) (Nat.le_refl _)
        rw [nums_bytes] at htx
        obtain ⟨s4, htk4, hs4⟩ := tokenN (s := s3) (t := ⟨#[58]⟩) (c := 58) (r := []) (l := f y ++ (rest' ++ 125 :: l)) (by rw [hs3]; simp [bytesOf]) (by decide) (by decide) 1
        replace htx := Aside0.mk htx; replace htk4 := Aside0.mk htk4; replace hs4 := Aside0.mk hs4
        clear hs3
        have u1 := cellS80_1 hI5.out.1
        have m3 := cell_at hn5.out 3
        simp at m3
        have hcn := cell_below hB5.out hc0.out
        go_region_held3 (fun w' => w'.cell? ⟨g, 1, none⟩ = some (.bool false) ∧ w'.cell? ⟨nd, 3, none⟩ = some (.slice (some an) names.length c3) ∧ w'.cell? (an.add i) = some (.string sn)) (simp [*, World.cell?_setCell_far]) ((go_at_call 84; refine (spec_reader_text.calls _ g si false sn s3 false w0 _ hI5.out.drew (hB5.out.trans (drewB0 _ _)) htx.out).mono ?_; rintro e w7 ⟨rfl, hI7, hB7, hK7⟩; have hn7 := Aside0.mk ((hK7.2 nd (lt_of hn5.out) hgn.out (by simp)).trans hn5.out); have ha7 := Aside0.mk ((hK7.2 na (lt_of ha5.out) hgna.out (by simp)).trans ha5.out); have v1 := cellS80_1 hI7.1; have v3 := cell_at hn7.out 3; simp at v3; have hcn7 := cell_below hB7 hc0.out; replace hI7 := Aside0.mk hI7; replace hB7 := Aside0.mk hB7; replace hK7 := Aside0.mk (hK5.out.trans (keep_undrew hK7) (.inl rfl))))
        all_goals
          go_wp2_with fail
          refine (spec_reader_token.calls _ g s3 false _ s4 false w0 w7 hI7.out hB7.out htk4.out).mono ?_
          rintro e w8 ⟨rfl, hI8, hB8, hK8⟩
          have hn8 := Aside0.mk ((hK8.2 nd (lt_of hn7.out) hgn.out (by simp)).trans hn7.out)
          have ha8 := Aside0.mk ((hK8.2 na (lt_of ha7.out) hgna.out (by simp)).trans ha7.out)
          replace hI8 := Aside0.mk hI8; replace hB8 := Aside0.mk hB8; replace hK8 := Aside0.mk (hK7.out.trans hK8 (.inl rfl))
          clear hI7 hB7 hK7 hn7 ha7
          have y0 := cell_at ha8.out 0; have y1 := cell_at ha8.out 1; have y2 := cell_at ha8.out 2; have y3 := cell_at ha8.out 3; have y4 := cell_at ha8.out 4; have y5 := cell_at ha8.out 5; have y6 := cell_at ha8.out 6; have y7 := cell_at ha8.out 7; have y8 := cell_at ha8.out 8; have y9 := cell_at ha8.out 9
          simp at y0 y1 y2 y3 y4 y5 y6 y7 y8 y9
          go_wp2_with fail
          refine (ih.out y hyk.out ⟨B3, d3, B4, d4, B5, d5, B9, d9⟩ g w8 s4 (rest' ++ 125 :: l) hNq.out hI8.out hB8.out hs4.out hstp.out).mono ?_
          rintro e w9 ⟨rfl, s9, hs9, hI9, hB9, hK9⟩
          have hn9 := Aside0.mk ((hK9.2 nd (lt_of hn8.out) hgn.out (by simp)).trans hn8.out)
          replace hI9 := Aside0.mk hI9; replace hB9 := Aside0.mk hB9; replace hK9 := Aside0.mk (hK8.out.trans hK9 (.inl rfl))
          clear y0 y1 y2 y3 y4 y5 y6 y7 y8 y9
          go_wp2_with fail
          go_roundg (kids.length - (i + 1))
          case rel => exact ⟨i + 1, s9, by push_cast; first | rfl | simp, by omega, hI9, hB9, hK9, hn9, .mk ⟨rest', hrn.out, hs9⟩⟩
          case measure => omega
      · have hg0 : ((0 : Int) < (i : Int)) = True := eq_true (by omega)
        have hg1 : (0 < i) = True := eq_true (by omega)
        go_wp2_with fail
        generalize wr.alloc (.cells #[.int .i64 y.f0, .string y.f1, .int .i64 y.f2, .slice B3 y.f3.length d3, .slice B4 y.f4.length d4, .slice B5 y.f5.length d5, .string y.f6, .string y.f7, .string y.f8, .slice B9 y.f9.length d9] 28) = w5 at *
        obtain ⟨na, hna⟩ : ∃ na, wr.heap.size = na := ⟨_, rfl⟩
        rw [hna] at ha5 hgna ⊢
        replace hna := Aside0.mk hna
        clear y0 y1 y2 y3 y4 y5 y6 y7 y8 y9
        obtain ⟨s2, htk, hs2⟩ := tokenN (s := si) (t := ⟨#[44]⟩) (c := 44) (r := []) (l := [34] ++ esc decL sn.size (bytesOf sn) ++ [34] ++ [58] ++ f y ++ (rest' ++ 125 :: l)) (by rw [hsi.out, hrest.out, if_neg h0]; simp [bytesOf]) (by decide) (by decide) 1
        replace htk := Aside0.mk htk; replace hs2 := Aside0.mk hs2
        refine (spec_reader_token.calls _ g si false _ s2 false w0 w5 hI5.out hB5.out htk.out).mono ?_
        rintro e w6 ⟨rfl, hI6, hB6, hK6⟩
        have hn6 := Aside0.mk ((hK6.2 nd (lt_of hn5.out) hgn.out (by simp)).trans hn5.out)
        have ha6 := Aside0.mk ((hK6.2 na (lt_of ha5.out) hgna.out (by simp)).trans ha5.out)
        replace hI6 := Aside0.mk hI6; replace hB6 := Aside0.mk hB6; replace hK6 := Aside0.mk (hK5.out.trans hK6 (.inl rfl))
        clear hI5 hB5 hK5 hn5 ha5 htk
        go_wp2_with fail
        obtain ⟨s3, htx, hs3⟩ := text_f hread.out (s := s2) (l := 58 :: (f y ++ (rest' ++ 125 :: l))) (by rw [hs2.out]; simp) (by rw [bytesOf_length]; omega) ((esc decL sn.size (bytesOf sn)).length + 14) (Nat.le_refl _)
        rw [nums_bytes] at htx
        obtain ⟨s4, htk4, hs4⟩ := tokenN (s := s3) (t := ⟨#[58]⟩) (c := 58) (r := []) (l := f y ++ (rest' ++ 125 :: l)) (by rw [hs3]; simp [bytesOf]) (by decide) (by decide) 1
        replace htx := Aside0.mk htx; replace htk4 := Aside0.mk htk4; replace hs4 := Aside0.mk hs4
        clear hs3
        have u1 := cellS80_1 hI6.out.1
        have m3 := cell_at hn6.out 3
        simp at m3
        have hcn := cell_below hB6.out hc0.out
        go_region_held3 (fun w' => w'.cell? ⟨g, 1, none⟩ = some (.bool false) ∧ w'.cell? ⟨nd, 3, none⟩ = some (.slice (some an) names.length c3) ∧ w'.cell? (an.add i) = some (.string sn)) (simp [*, World.cell?_setCell_far]) ((go_at_call 84; refine (spec_reader_text.calls _ g s2 false sn s3 false w0 _ hI6.out.drew (hB6.out.trans (drewB0 _ _)) htx.out).mono ?_; rintro e w7 ⟨rfl, hI7, hB7, hK7⟩; have hn7 := Aside0.mk ((hK7.2 nd (lt_of hn6.out) hgn.out (by simp)).trans hn6.out); have ha7 := Aside0.mk ((hK7.2 na (lt_of ha6.out) hgna.out (by simp)).trans ha6.out); have v1 := cellS80_1 hI7.1; have v3 := cell_at hn7.out 3; simp at v3; have hcn7 := cell_below hB7 hc0.out; replace hI7 := Aside0.mk hI7; replace hB7 := Aside0.mk hB7; replace hK7 := Aside0.mk (hK6.out.trans (keep_undrew hK7) (.inl rfl))))
        all_goals
          go_wp2_with fail
          refine (spec_reader_token.calls _ g s3 false _ s4 false w0 w7 hI7.out hB7.out htk4.out).mono ?_
          rintro e w8 ⟨rfl, hI8, hB8, hK8⟩
          have hn8 := Aside0.mk ((hK8.2 nd (lt_of hn7.out) hgn.out (by simp)).trans hn7.out)
          have ha8 := Aside0.mk ((hK8.2 na (lt_of ha7.out) hgna.out (by simp)).trans ha7.out)
          replace hI8 := Aside0.mk hI8; replace hB8 := Aside0.mk hB8; replace hK8 := Aside0.mk (hK7.out.trans hK8 (.inl rfl))
          clear hI7 hB7 hK7 hn7 ha7
          have y0 := cell_at ha8.out 0; have y1 := cell_at ha8.out 1; have y2 := cell_at ha8.out 2; have y3 := cell_at ha8.out 3; have y4 := cell_at ha8.out 4; have y5 := cell_at ha8.out 5; have y6 := cell_at ha8.out 6; have y7 := cell_at ha8.out 7; have y8 := cell_at ha8.out 8; have y9 := cell_at ha8.out 9
          simp at y0 y1 y2 y3 y4 y5 y6 y7 y8 y9
          go_wp2_with fail
          refine (ih.out y hyk.out ⟨B3, d3, B4, d4, B5, d5, B9, d9⟩ g w8 s4 (rest' ++ 125 :: l) hNq.out hI8.out hB8.out hs4.out hstp.out).mono ?_
          rintro e w9 ⟨rfl, s9, hs9, hI9, hB9, hK9⟩
          have hn9 := Aside0.mk ((hK9.2 nd (lt_of hn8.out) hgn.out (by simp)).trans hn8.out)
          replace hI9 := Aside0.mk hI9; replace hB9 := Aside0.mk hB9; replace hK9 := Aside0.mk (hK8.out.trans hK9 (.inl rfl))
          clear y0 y1 y2 y3 y4 y5 y6 y7 y8 y9
          go_wp2_with fail
          go_roundg (kids.length - (i + 1))
          case rel => exact ⟨i + 1, s9, by push_cast; first | rfl | simp, by omega, hI9, hB9, hK9, hn9, .mk ⟨rest', hrn.out, hs9⟩⟩
          case measure => omega
    · have hi1 : ((i : Int) < (kids.length : Int)) = False := eq_false (by omega)
      obtain rfl : i = kids.length := by omega
      obtain ⟨rest, hr1, hr2⟩ := hrs.out
      skip
      have hre : rest = [] := by
        have := congrArg List.length hr1
        rw [List.length_append] at this
        exact List.eq_nil_of_length_eq_zero (by omega)
      rw [hre, List.nil_append] at hr2
      obtain ⟨s5, htk, hs5⟩ := tokenN (s := si) (t := ⟨#[125]⟩) (c := 125) (r := []) (l := l) (by rw [hr2]; simp [bytesOf]) (by decide) (by decide) 1
      replace htk := Aside0.mk htk; replace hs5 := Aside0.mk hs5
      clear hr1 hr2 hre hrs
      go_wp2_with fail
      refine (spec_reader_token.calls _ g si false _ s5 false w0 wr hI4.out hB4.out htk.out).mono ?_
      rintro e w6 ⟨rfl, hI6, hB6, hK6⟩
      replace hI6 := Aside0.mk hI6; replace hB6 := Aside0.mk hB6; replace hK6 := Aside0.mk (hK4.out.trans hK6 (.inl rfl))
      go_wp2
      refine bodyPost_end (results_none rfl _ _ _) rfl ?_
      exact ⟨rfl, s5, hs5.out, hI6.out, hB6.out, hK6.out⟩
set_option maxHeartbeats 8000000 in
set_option maxRecDepth 100000 in
theorem inv8 (w0 : World) {f : S28 → List Int} (t it kn vn : ByteArray) (num : Int) (names : List ByteArray) (kids : List S28) (fl : List Bool) (at' : List S45) (ih : ∀ y ∈ kids, InV w0 y (f y)) : InV w0 ⟨8, t, num, names, kids, fl, it, kn, vn, at'⟩ ([91] ++ je f kids kids.length ++ [93]) := by
  intro p g w s l hN hI hB hs hst
  obtain ⟨A3, c3, A4, c4, A5, c5, A9, c9⟩ := p
  obtain ⟨n5, hn5⟩ : ∃ n5, fl.length = n5 := ⟨_, rfl⟩
  obtain ⟨n9, hn9⟩ : ∃ n9, at'.length = n9 := ⟨_, rfl⟩
  unfold NV
  dsimp only
  rw [hn5, hn9]
  clear hn5 hn9
  obtain ⟨s1, htok, hs1⟩ := tokenN (s := s) (t := ⟨#[91]⟩) (c := 91) (r := []) (l := je f kids kids.length ++ 93 :: l) (by rw [hs]; simp [bytesOf]) (by decide) (by decide) 1
  have hb := below_alloc (Below.refl w.heap.size w) (.cells #[.int .i64 8, .string t, .int .i64 num, .slice A3 names.length c3, .slice A4 kids.length c4, .slice A5 n5 c5, .string it, .string kn, .string vn, .slice A9 n9 c9] 28)
  have hk1 := heap_new w (.cells #[.int .i64 8, .string t, .int .i64 num, .slice A3 names.length c3, .slice A4 kids.length c4, .slice A5 n5 c5, .string it, .string kn, .string vn, .slice A9 n9 c9] 28)
  have hI1 := Aside0.mk (hI.below hb)
  have hB1 := Aside0.mk (hB.trans (below_low hb (IsS80.ge hI) (IsS80.lt hI)))
  have hK1 := Aside0.mk (KeepBut.of_below hb g none)
  have hgn : Aside0 (w.heap.size ≠ g) := .mk (by have := IsS80.lt hI; omega)
  replace hN := Aside0.mk hN; replace ih := Aside0.mk ih; replace htok := Aside0.mk htok; replace hs1 := Aside0.mk hs1; replace hst := Aside0.mk hst
  clear hI hB hb hs
  go_enter Tryz.func36, Tryz.ntmps36
  go_wp2_with fail
  generalize w.alloc (.cells #[.int .i64 8, .string t, .int .i64 num, .slice A3 names.length c3, .slice A4 kids.length c4, .slice A5 n5 c5, .string it, .string kn, .string vn, .slice A9 n9 c9] 28) = w1 at *
  obtain ⟨nd, hnd⟩ : ∃ nd, w.heap.size = nd := ⟨_, rfl⟩
  rw [hnd] at hk1 hgn ⊢
  replace hk1 := Aside0.mk hk1; replace hnd := Aside0.mk hnd
  refine (spec_reader_token.calls _ g s false _ s1 false w0 w1 hI1.out hB1.out htok.out).mono ?_
  rintro e w2 ⟨rfl, hI2, hB2, hK2⟩
  have hn2 := hK2.2 nd (lt_of hk1.out) hgn.out (by simp)
  replace hn2 := Aside0.mk (hn2.trans hk1.out)
  replace hI2 := Aside0.mk hI2; replace hB2 := Aside0.mk hB2; replace hK2 := Aside0.mk (hK1.out.trans hK2 (.inl rfl))
  clear hI1 hB1 hK1 hk1 htok
  have m4 := cell_at hn2.out 4
  simp at m4
  have hmx := Aside0.mk (Kd.C_max hN.out.h4)
  go_wp2_with fail
  go_loopg [104] kids.length (fun q v104 w' => ∃ (i : Nat) (si : ByteArray), v104 = .int .i64 (i : Int) ∧ q + i = kids.length ∧ Aside0 (IsS80 w0 w' g si false) ∧ Aside0 (Below w0.heap.size w0 w') ∧ Aside0 (KeepBut w w' g none) ∧ Aside0 (w'.heap[nd]? = some (.cells #[.int .i64 8, .string t, .int .i64 num, .slice A3 names.length c3, .slice A4 kids.length c4, .slice A5 n5 c5, .string it, .string kn, .string vn, .slice A9 n9 c9] 28 (0, 0))) ∧ Aside0 (∃ rest, je f kids kids.length = je f kids i ++ rest ∧ bytesOf si = rest ++ 93 :: l))
  case atStart => exact ⟨0, s1, rfl, by omega, hI2, hB2, hK2, hn2, .mk ⟨_, by simp [je], hs1.out⟩⟩
  case round =>
    clear m4 hI2 hB2 hK2 hn2
    obtain ⟨i, si, rfl, hq, hI4, hB4, hK4, hn4, hrs⟩ := hrel
    have hi0 : ((0 : Int) ≤ (i : Int)) = True := eq_true (by omega)
    by_cases hi : i < kids.length
    · have hi1 : ((i : Int) < (kids.length : Int)) = True := eq_true (by omega)
      have e6 : IntKind.i64.wrap ((i : Int) + 1) = (i : Int) + 1 := w64i _ (by omega) (by have := hmx.out; omega)
      obtain ⟨ad, qy, hA, kc0, hNq⟩ := hN.out.kid i hi
      dsimp only at hA
      subst hA
      dsimp only at kc0 hNq
      have hyk : kids.getD i z28 ∈ kids := getD_mem z28 hi
      obtain ⟨rest, hr1, hr2⟩ := hrs.out
      obtain ⟨rest', hr3, hr4⟩ := je_split f kids (show 1 ≤ i + 1 by omega) (show i + 1 ≤ kids.length by omega)
      have hjn : je f kids (i + 1) = je f kids i ++ ((if i = 0 then [] else [44]) ++ f (kids.getD i z28)) := rfl
      have hrn : Aside0 (je f kids kids.length = je f kids (i + 1) ++ rest') := .mk hr3
      rw [hjn, List.append_assoc] at hr3
      have hrest : Aside0 (rest = ((if i = 0 then [] else [44]) ++ f (kids.getD i z28)) ++ rest') := .mk (List.append_cancel_left (hr1.symm.trans hr3))
      have hsi : Aside0 (bytesOf si = rest ++ 93 :: l) := .mk hr2
      have hstp := Aside0.mk (stop_of (l := l) (c := 93) hr4 (by decide))
      clear hr1 hr2 hr3 hr4 hjn hrs
      obtain ⟨y, hy⟩ : ∃ y, kids.getD i z28 = y := ⟨_, rfl⟩
      rw [hy] at kc0 hNq hyk hrest
      skip
      obtain ⟨B3, d3, B4, d4, B5, d5, B9, d9⟩ := qy
      obtain ⟨y0, y1, y2, y3, y4, y5, y6, y7, y8, y9⟩ := kc0.below hB4.out
      dsimp only at y0 y1 y2 y3 y4 y5 y6 y7 y8 y9
      have hbk := below_alloc (Below.refl wr.heap.size wr) (.cells #[.int .i64 y.f0, .string y.f1, .int .i64 y.f2, .slice B3 y.f3.length d3, .slice B4 y.f4.length d4, .slice B5 y.f5.length d5, .string y.f6, .string y.f7, .string y.f8, .slice B9 y.f9.length d9] 28)
      have ha5 := Aside0.mk (heap_new wr (.cells #[.int .i64 y.f0, .string y.f1, .int .i64 y.f2, .slice B3 y.f3.length d3, .slice B4 y.f4.length d4, .slice B5 y.f5.length d5, .string y.f6, .string y.f7, .string y.f8, .slice B9 y.f9.length d9] 28))
      have hI5 := Aside0.mk (hI4.out.below hbk)
      have hB5 := Aside0.mk (hB4.out.trans (below_low hbk (IsS80.ge hI4.out) (IsS80.lt hI4.out)))
      have hK5 := Aside0.mk (hK4.out.trans (KeepBut.of_below hbk g none) (.inl rfl))
      have hn5 := Aside0.mk (heap_below hbk hn4.out)
      have hgna : Aside0 (wr.heap.size ≠ g) := .mk (by have := IsS80.lt hI4.out; omega)
      replace hNq := Aside0.mk hNq; replace hyk := Aside0.mk hyk; replace hy := Aside0.mk hy
      clear hbk kc0 hI4 hB4 hK4 hn4
      skip
      by_cases h0 : i = 0
      · have hg0 : ((0 : Int) < (i : Int)) = False := eq_false (by omega)
        have hg1 : (0 < i) = False := eq_false (by omega)
        replace h0 := Aside0.mk h0
        go_wp2_with fail
        generalize wr.alloc (.cells #[.int .i64 y.f0, .string y.f1, .int .i64 y.f2, .slice B3 y.f3.length d3, .slice B4 y.f4.length d4, .slice B5 y.f5.length d5, .string y.f6, .string y.f7, .string y.f8, .slice B9 y.f9.length d9] 28) = w5 at *
        obtain ⟨na, hna⟩ : ∃ na, wr.heap.size = na := ⟨_, rfl⟩
        rw [hna] at ha5 hgna ⊢
        replace hna := Aside0.mk hna
        clear y0 y1 y2 y3 y4 y5 y6 y7 y8 y9
        have hs2 : Aside0 (bytesOf si = f y ++ (rest' ++ 93 :: l)) := .mk (by rw [hsi.out, hrest.out, if_pos h0.out]; simp)
        refine (ih.out y hyk.out ⟨B3, d3, B4, d4, B5, d5, B9, d9⟩ g w5 si (rest' ++ 93 :: l) hNq.out hI5.out hB5.out hs2.out hstp.out).mono ?_
        rintro e w9 ⟨rfl, s9, hs9, hI9, hB9, hK9⟩
        have hn9 := Aside0.mk ((hK9.2 nd (lt_of hn5.out) hgn.out (by simp)).trans hn5.out)
        replace hI9 := Aside0.mk hI9; replace hB9 := Aside0.mk hB9; replace hK9 := Aside0.mk (hK5.out.trans hK9 (.inl rfl))
        go_wp2_with fail
        go_roundg (kids.length - (i + 1))
        case rel =>
          exact ⟨i + 1, s9, by push_cast; first | rfl | simp, by omega, hI9, hB9, hK9, hn9, .mk ⟨rest', hrn.out, hs9⟩⟩
        case measure => omega
      · have hg0 : ((0 : Int) < (i : Int)) = True := eq_true (by omega)
        have hg1 : (0 < i) = True := eq_true (by omega)
        go_wp2_with fail
        generalize wr.alloc (.cells #[.int .i64 y.f0, .string y.f1, .int .i64 y.f2, .slice B3 y.f3.length d3, .slice B4 y.f4.length d4, .slice B5 y.f5.length d5, .string y.f6, .string y.f7, .string y.f8, .slice B9 y.f9.length d9] 28) = w5 at *
        obtain ⟨na, hna⟩ : ∃ na, wr.heap.size = na := ⟨_, rfl⟩
        rw [hna] at ha5 hgna ⊢
        replace hna := Aside0.mk hna
        clear y0 y1 y2 y3 y4 y5 y6 y7 y8 y9
        obtain ⟨s2, htk, hs2⟩ := tokenN (s := si) (t := ⟨#[44]⟩) (c := 44) (r := []) (l := f y ++ (rest' ++ 93 :: l)) (by rw [hsi.out, hrest.out, if_neg h0]; simp [bytesOf]) (by decide) (by decide) 1
        replace htk := Aside0.mk htk; replace hs2 := Aside0.mk hs2
        refine (spec_reader_token.calls _ g si false _ s2 false w0 w5 hI5.out hB5.out htk.out).mono ?_
        rintro e w6 ⟨rfl, hI6, hB6, hK6⟩
        have hn6 := Aside0.mk ((hK6.2 nd (lt_of hn5.out) hgn.out (by simp)).trans hn5.out)
        have ha6 := Aside0.mk ((hK6.2 na (lt_of ha5.out) hgna.out (by simp)).trans ha5.out)
        replace hI6 := Aside0.mk hI6; replace hB6 := Aside0.mk hB6; replace hK6 := Aside0.mk (hK5.out.trans hK6 (.inl rfl))
        clear hI5 hB5 hK5 hn5 ha5 htk
        have y0 := cell_at ha6.out 0; have y1 := cell_at ha6.out 1; have y2 := cell_at ha6.out 2; have y3 := cell_at ha6.out 3; have y4 := cell_at ha6.out 4; have y5 := cell_at ha6.out 5; have y6 := cell_at ha6.out 6; have y7 := cell_at ha6.out 7; have y8 := cell_at ha6.out 8; have y9 := cell_at ha6.out 9
        simp at y0 y1 y2 y3 y4 y5 y6 y7 y8 y9
        go_wp2_with fail
        clear y0 y1 y2 y3 y4 y5 y6 y7 y8 y9
        refine (ih.out y hyk.out ⟨B3, d3, B4, d4, B5, d5, B9, d9⟩ g w6 s2 (rest' ++ 93 :: l) hNq.out hI6.out hB6.out hs2.out hstp.out).mono ?_
        rintro e w9 ⟨rfl, s9, hs9, hI9, hB9, hK9⟩
        have hn9 := Aside0.mk ((hK9.2 nd (lt_of hn6.out) hgn.out (by simp)).trans hn6.out)
        replace hI9 := Aside0.mk hI9; replace hB9 := Aside0.mk hB9; replace hK9 := Aside0.mk (hK6.out.trans hK9 (.inl rfl))
        go_wp2_with fail
        go_roundg (kids.length - (i + 1))
        case rel =>
          exact ⟨i + 1, s9, by push_cast; first | rfl | simp, by omega, hI9, hB9, hK9, hn9, .mk ⟨rest', hrn.out, hs9⟩⟩
        case measure => omega
    · have hi1 : ((i : Int) < (kids.length : Int)) = False := eq_false (by omega)
      obtain rfl : i = kids.length := by omega
      obtain ⟨rest, hr1, hr2⟩ := hrs.out
      skip
      have hre : rest = [] := by
        have := congrArg List.length hr1
        rw [List.length_append] at this
        exact List.eq_nil_of_length_eq_zero (by omega)
      rw [hre, List.nil_append] at hr2
      obtain ⟨s5, htk, hs5⟩ := tokenN (s := si) (t := ⟨#[93]⟩) (c := 93) (r := []) (l := l) (by rw [hr2]; simp [bytesOf]) (by decide) (by decide) 1
      replace htk := Aside0.mk htk; replace hs5 := Aside0.mk hs5
      clear hr1 hr2 hre hrs
      go_wp2_with fail
      refine (spec_reader_token.calls _ g si false _ s5 false w0 wr hI4.out hB4.out htk.out).mono ?_
      rintro e w6 ⟨rfl, hI6, hB6, hK6⟩
      replace hI6 := Aside0.mk hI6; replace hB6 := Aside0.mk hB6; replace hK6 := Aside0.mk (hK4.out.trans hK6 (.inl rfl))
      go_wp2
      refine bodyPost_end (results_none rfl _ _ _) rfl ?_
      exact ⟨rfl, s5, hs5.out, hI6.out, hB6.out, hK6.out⟩
end H
end Go.Proofs.YtkihaebaccdjdaaGreatDoor
