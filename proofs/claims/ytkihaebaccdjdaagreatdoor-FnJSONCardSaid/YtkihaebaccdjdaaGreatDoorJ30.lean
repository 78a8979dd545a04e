import Derived.Test.YtkihaebaccdjdaaGreatDoorJ25
import Derived.Test.YtkihaebaccdjdaaGreatDoorJ28
import Derived.Test.YtkihaebaccdjdaaGreatDoorJ29
set_option linter.unusedVariables false
set_option linter.unusedSimpArgs false
namespace Go.Proofs.YtkihaebaccdjdaaGreatDoor
open Go.RowKit Go.Proofs.YtkihaebaccdjdaaGreatDoorW.PrintWords Go.Proofs.YtkihaebaccdjdaaGreatDoorW.PrintLast Go.Proofs.YtkihaebaccdjdaaGreatDoorW.PrintMore
open PX
namespace H
/-! ### reader.value of a scalar -/
/-- What may stand behind a value. -/
def StopL (l : List Int) : Prop := l = [] ∨ ∃ c t, l = c :: t ∧ (c = 44 ∨ c = 93 ∨ c = 125)
theorem tokenN {s t : ByteArray} {c : Int} {r l : List Int} (h : bytesOf s = bytesOf t ++ l) (ht : bytesOf t = c :: r) (hc : c ≠ 32 ∧ c ≠ 9 ∧ c ≠ 10 ∧ c ≠ 13) (k : Nat) :
    ∃ s', spec_reader_token.f (k + 1) s false t = some (s', false) ∧ bytesOf s' = l := by
  have h1 : bytesOf s = c :: (r ++ l) := by rw [h, ht]; rfl
  have hsz : s.size = t.size + l.length := by rw [← bytesOf_length, h, List.length_append, bytesOf_length]
  refine ⟨s.extract t.size s.size, ?_, ?_⟩
  · unfold spec_reader_token.f
    rw [space_f h1 hc]
    simp only [Option.bind_some]
    unfold spec_reader_want.f spec_reader_take.f
    have e : bytesOf (s.extract 0 t.size) = bytesOf t := by rw [bytes_ext, h, List.drop_zero, ← bytesOf_length t, Nat.sub_zero, List.take_left]
    rw [if_pos ⟨by omega, (toList_eq_iff _ _).2 e⟩]
    rfl
  · rw [bytes_ext, h, ← bytesOf_length t, List.drop_left, List.take_of_length_le (by rw [bytesOf_length, hsz]; omega)]
theorem peek_stop {s : ByteArray} {l : List Int} (h : bytesOf s = l) (hl : StopL l) : ∃ c, spec_reader_peek.f s false = some (c, s, false) ∧ (c = 0 ∨ c = 44 ∨ c = 93 ∨ c = 125) := by
  rcases hl with rfl | ⟨c, t, rfl, hc⟩
  · have hs : s = ⟨#[]⟩ := bytes_inj (h.trans (by decide))
    refine ⟨0, ?_, .inl rfl⟩
    unfold spec_reader_peek.f
    rw [if_pos (by rw [hs, ByteArray.toList_eq])]
  · exact ⟨c, peek_f h false, .inr hc⟩
/-- reader.value's contract at one node. -/
def InV (w0 : World) (y : S28) (ys : List Int) : Prop :=
  ∀ (q : NA) (g : Nat) (w : World) (s : ByteArray) (l : List Int), NH w0 y q → IsS80 w0 w g s false → Below w0.heap.size w0 w → bytesOf s = ys ++ l → StopL l →
    Calls Tryz.prog 36 #[.pointer (some ⟨g, 0, none⟩), NV y q] w fun e w' => e = .returned (.tuple #[]) ∧ ∃ s', bytesOf s' = l ∧ IsS80 w0 w' g s' false ∧ Below w0.heap.size w0 w' ∧ KeepBut w w' g none
theorem digs_rng : ∀ (n u : Nat), u < 10 ^ n → 1 ≤ n → (∀ x ∈ digs u, 48 ≤ x ∧ x ≤ 57) ∧ digs u ≠ [] := by
  intro n
  induction n with
  | zero => intro u _ h; omega
  | succ n ih =>
    intro u hu _
    by_cases h : u < 10
    · rw [digs_small u h]
      exact ⟨fun x hx => by simp at hx; omega, by simp⟩
    · rw [digs_big u h]
      have hn : 1 ≤ n := by
        rcases Nat.eq_zero_or_pos n with rfl | h'
        · simp at hu; omega
        · exact h'
      have := (ih (u / 10) (by rw [Nat.pow_succ] at hu; omega) hn).1
      exact ⟨fun x hx => by rcases List.mem_append.1 hx with hx | hx; exact this x hx; simp at hx; omega, by simp⟩
theorem digs_head (u : Nat) (h : u < 100000000000000000000) : ∃ c r, digs u = c :: r ∧ 48 ≤ c ∧ c ≤ 57 := by
  obtain ⟨h1, h2⟩ := digs_rng 20 u h (by omega)
  cases hd : digs u with
  | nil => exact absurd hd h2
  | cons c r => exact ⟨c, r, rfl, h1 c (by rw [hd]; simp)⟩
theorem itoaB_head (i : Int) (h0 : -9223372036854775808 ≤ i) (h1 : i ≤ 9223372036854775807) : ∃ c r, itoaB i = c :: r ∧ (c = 45 ∨ 48 ≤ c ∧ c ≤ 57) := by
  by_cases hneg : i < 0
  · obtain ⟨u, rfl⟩ : ∃ u : Nat, i = -(u : Int) := ⟨i.natAbs, by omega⟩
    rw [itoaB_neg u (by omega)]
    exact ⟨45, _, rfl, .inl rfl⟩
  · obtain ⟨u, rfl⟩ : ∃ u : Nat, i = u := ⟨i.toNat, by omega⟩
    rw [itoaB_nn u]
    obtain ⟨c, r, e, h⟩ := digs_head u (by omega)
    exact ⟨c, r, e, .inr h⟩
set_option maxHeartbeats 8000000 in
set_option maxRecDepth 100000 in
theorem invT1 (w0 : World) (t it kn vn : ByteArray) (num : Int) (names : List ByteArray) (kids : List S28) (fl : List Bool) (at' : List S45) (ht : t.size ≤ 2147483647) (hn0 : -9223372036854775808 ≤ num) (hn1 : num ≤ 9223372036854775807) {ys r : List Int} {c : Int} (hy : bytesOf (textS 1 t num) = ys) (hc : ys = c :: r) (hcs : c ≠ 32 ∧ c ≠ 9 ∧ c ≠ 10 ∧ c ≠ 13) :
    InV w0 ⟨1, t, num, names, kids, fl, it, kn, vn, at'⟩ ys := by
  intro p g w s l hN hI hB hs hst
  obtain ⟨A3, c3, A4, c4, A5, c5, A9, c9⟩ := p
  unfold NV
  dsimp only
  obtain ⟨r1, hr1⟩ : ∃ r1, names.length = r1 := ⟨_, rfl⟩
  obtain ⟨r2, hr2⟩ : ∃ r2, kids.length = r2 := ⟨_, rfl⟩
  obtain ⟨r3, hr3⟩ : ∃ r3, fl.length = r3 := ⟨_, rfl⟩
  obtain ⟨r4, hr4⟩ : ∃ r4, at'.length = r4 := ⟨_, rfl⟩
  rw [hr1, hr2, hr3, hr4]
  clear hr1 hr2 hr3 hr4
  have hX := fun w => text_call 1 t num w ht hn0 hn1
  obtain ⟨T, hT⟩ : ∃ T, textS 1 t num = T := ⟨_, rfl⟩
  rw [hT] at hX hy
  obtain ⟨s1, htok, hs1⟩ := tokenN (t := T) (s := s) (l := l) (by rw [hy]; exact hs) (by rw [hy]; exact hc) hcs 1
  obtain ⟨pc, hpk, hpc⟩ := peek_stop hs1 hst
  replace htok := Aside0.mk htok; replace hpk := Aside0.mk hpk; replace hX := Aside0.mk hX
  have hb := below_alloc (Below.refl w.heap.size w) (.cells #[.int .i64 1, .string t, .int .i64 num, .slice A3 r1 c3, .slice A4 r2 c4, .slice A5 r3 c5, .string it, .string kn, .string vn, .slice A9 r4 c9] 28)
  have hk1 := heap_new w (.cells #[.int .i64 1, .string t, .int .i64 num, .slice A3 r1 c3, .slice A4 r2 c4, .slice A5 r3 c5, .string it, .string kn, .string vn, .slice A9 r4 c9] 28)
  have hI1 := Aside0.mk (hI.below hb)
  have hB1 := Aside0.mk (hB.trans (below_low hb (IsS80.ge hI) (IsS80.lt hI)))
  have hK1 := Aside0.mk (KeepBut.of_below hb g none)
  clear hI hB hb hN hs hT hy hc hcs ht hn0 hn1
  go_enter Tryz.func36, Tryz.ntmps36
  go_wp2_with fail
  generalize w.alloc (.cells #[.int .i64 1, .string t, .int .i64 num, .slice A3 r1 c3, .slice A4 r2 c4, .slice A5 r3 c5, .string it, .string kn, .string vn, .slice A9 r4 c9] 28) = w1 at *
  obtain ⟨nb, hnb⟩ : ∃ nb, w.heap.size = nb := ⟨_, rfl⟩
  rw [hnb] at hk1 ⊢
  clear hnb
  have q0 := cell_at hk1 0; have q1 := cell_at hk1 1; have q2 := cell_at hk1 2
  simp at q0 q1 q2
  refine (hX.out w1).mono ?_
  rintro e w2 ⟨rfl, hb2⟩
  have hI2 := Aside0.mk (hI1.out.below hb2); have hB2 := Aside0.mk (hB1.out.trans (below_low hb2 (IsS80.ge hI1.out) (IsS80.lt hI1.out))); have hK2 := Aside0.mk (hK1.out.trans (KeepBut.of_below hb2 g none) (.inl rfl))
  clear hb2 hI1 hB1 hK1 q0 q1 q2 hk1
  go_wp2_with fail
  refine (spec_reader_token.calls _ g s false T s1 false w0 w2 hI2.out hB2.out htok.out).mono ?_
  rintro e w3 ⟨rfl, hI3, hB3, hK3⟩
  replace hI3 := Aside0.mk hI3; replace hB3 := Aside0.mk hB3; replace hK3 := Aside0.mk (hK2.out.trans hK3 (.inl rfl))
  go_wp2_with fail
  refine (spec_reader_peek.calls g s1 false pc s1 false w0 w3 hI3.out hB3.out hpk.out).mono ?_
  rintro e w4 ⟨rfl, hI4, hB4, hK4⟩
  replace hI4 := Aside0.mk hI4; replace hB4 := Aside0.mk hB4; replace hK4 := Aside0.mk (hK3.out.trans hK4 (.inl rfl))
  clear hI2 hB2 hK2 hI3 hB3 hK3 hpk htok hX
  rcases hpc with rfl | rfl | rfl | rfl
  all_goals
    go_wp2
    refine bodyPost_end (results_none rfl _ _ _) rfl ?_
    exact ⟨rfl, s1, hs1, hI4.out, hB4.out, hK4.out⟩
set_option maxHeartbeats 8000000 in
set_option maxRecDepth 100000 in
theorem invT2 (w0 : World) (t it kn vn : ByteArray) (num : Int) (names : List ByteArray) (kids : List S28) (fl : List Bool) (at' : List S45) (ht : t.size ≤ 2147483647) (hn0 : -9223372036854775808 ≤ num) (hn1 : num ≤ 9223372036854775807) {ys r : List Int} {c : Int} (hy : bytesOf (textS 2 t num) = ys) (hc : ys = c :: r) (hcs : c ≠ 32 ∧ c ≠ 9 ∧ c ≠ 10 ∧ c ≠ 13) :
    InV w0 ⟨2, t, num, names, kids, fl, it, kn, vn, at'⟩ ys := by
  intro p g w s l hN hI hB hs hst
  obtain ⟨A3, c3, A4, c4, A5, c5, A9, c9⟩ := p
  unfold NV
  dsimp only
  obtain ⟨r1, hr1⟩ : ∃ r1, names.length = r1 := ⟨_, rfl⟩
  obtain ⟨r2, hr2⟩ : ∃ r2, kids.length = r2 := ⟨_, rfl⟩
  obtain ⟨r3, hr3⟩ : ∃ r3, fl.length = r3 := ⟨_, rfl⟩
  obtain ⟨r4, hr4⟩ : ∃ r4, at'.length = r4 := ⟨_, rfl⟩
  rw [hr1, hr2, hr3, hr4]
  clear hr1 hr2 hr3 hr4
  have hX := fun w => text_call 2 t num w ht hn0 hn1
  obtain ⟨T, hT⟩ : ∃ T, textS 2 t num = T := ⟨_, rfl⟩
  rw [hT] at hX hy
  obtain ⟨s1, htok, hs1⟩ := tokenN (t := T) (s := s) (l := l) (by rw [hy]; exact hs) (by rw [hy]; exact hc) hcs 1
  obtain ⟨pc, hpk, hpc⟩ := peek_stop hs1 hst
  replace htok := Aside0.mk htok; replace hpk := Aside0.mk hpk; replace hX := Aside0.mk hX
  have hb := below_alloc (Below.refl w.heap.size w) (.cells #[.int .i64 2, .string t, .int .i64 num, .slice A3 r1 c3, .slice A4 r2 c4, .slice A5 r3 c5, .string it, .string kn, .string vn, .slice A9 r4 c9] 28)
  have hk1 := heap_new w (.cells #[.int .i64 2, .string t, .int .i64 num, .slice A3 r1 c3, .slice A4 r2 c4, .slice A5 r3 c5, .string it, .string kn, .string vn, .slice A9 r4 c9] 28)
  have hI1 := Aside0.mk (hI.below hb)
  have hB1 := Aside0.mk (hB.trans (below_low hb (IsS80.ge hI) (IsS80.lt hI)))
  have hK1 := Aside0.mk (KeepBut.of_below hb g none)
  clear hI hB hb hN hs hT hy hc hcs ht hn0 hn1
  go_enter Tryz.func36, Tryz.ntmps36
  go_wp2_with fail
  generalize w.alloc (.cells #[.int .i64 2, .string t, .int .i64 num, .slice A3 r1 c3, .slice A4 r2 c4, .slice A5 r3 c5, .string it, .string kn, .string vn, .slice A9 r4 c9] 28) = w1 at *
  obtain ⟨nb, hnb⟩ : ∃ nb, w.heap.size = nb := ⟨_, rfl⟩
  rw [hnb] at hk1 ⊢
  clear hnb
  have q0 := cell_at hk1 0; have q1 := cell_at hk1 1; have q2 := cell_at hk1 2
  simp at q0 q1 q2
  refine (hX.out w1).mono ?_
  rintro e w2 ⟨rfl, hb2⟩
  have hI2 := Aside0.mk (hI1.out.below hb2); have hB2 := Aside0.mk (hB1.out.trans (below_low hb2 (IsS80.ge hI1.out) (IsS80.lt hI1.out))); have hK2 := Aside0.mk (hK1.out.trans (KeepBut.of_below hb2 g none) (.inl rfl))
  clear hb2 hI1 hB1 hK1 q0 q1 q2 hk1
  go_wp2_with fail
  refine (spec_reader_token.calls _ g s false T s1 false w0 w2 hI2.out hB2.out htok.out).mono ?_
  rintro e w3 ⟨rfl, hI3, hB3, hK3⟩
  replace hI3 := Aside0.mk hI3; replace hB3 := Aside0.mk hB3; replace hK3 := Aside0.mk (hK2.out.trans hK3 (.inl rfl))
  go_wp2_with fail
  refine (spec_reader_peek.calls g s1 false pc s1 false w0 w3 hI3.out hB3.out hpk.out).mono ?_
  rintro e w4 ⟨rfl, hI4, hB4, hK4⟩
  replace hI4 := Aside0.mk hI4; replace hB4 := Aside0.mk hB4; replace hK4 := Aside0.mk (hK3.out.trans hK4 (.inl rfl))
  clear hI2 hB2 hK2 hI3 hB3 hK3 hpk htok hX
  rcases hpc with rfl | rfl | rfl | rfl
  all_goals
    go_wp2
    refine bodyPost_end (results_none rfl _ _ _) rfl ?_
    exact ⟨rfl, s1, hs1, hI4.out, hB4.out, hK4.out⟩
set_option maxHeartbeats 8000000 in
set_option maxRecDepth 100000 in
theorem invT3 (w0 : World) (t it kn vn : ByteArray) (num : Int) (names : List ByteArray) (kids : List S28) (fl : List Bool) (at' : List S45) (ht : t.size ≤ 2147483647) (hn0 : -9223372036854775808 ≤ num) (hn1 : num ≤ 9223372036854775807) {ys r : List Int} {c : Int} (hy : bytesOf (textS 3 t num) = ys) (hc : ys = c :: r) (hcs : c ≠ 32 ∧ c ≠ 9 ∧ c ≠ 10 ∧ c ≠ 13) :
    InV w0 ⟨3, t, num, names, kids, fl, it, kn, vn, at'⟩ ys := by
  intro p g w s l hN hI hB hs hst
  obtain ⟨A3, c3, A4, c4, A5, c5, A9, c9⟩ := p
  unfold NV
  dsimp only
  obtain ⟨r1, hr1⟩ : ∃ r1, names.length = r1 := ⟨_, rfl⟩
  obtain ⟨r2, hr2⟩ : ∃ r2, kids.length = r2 := ⟨_, rfl⟩
  obtain ⟨r3, hr3⟩ : ∃ r3, fl.length = r3 := ⟨_, rfl⟩
  obtain ⟨r4, hr4⟩ : ∃ r4, at'.length = r4 := ⟨_, rfl⟩
  rw [hr1, hr2, hr3, hr4]
  clear hr1 hr2 hr3 hr4
  have hX := fun w => text_call 3 t num w ht hn0 hn1
  obtain ⟨T, hT⟩ : ∃ T, textS 3 t num = T := ⟨_, rfl⟩
  rw [hT] at hX hy
  obtain ⟨s1, htok, hs1⟩ := tokenN (t := T) (s := s) (l := l) (by rw [hy]; exact hs) (by rw [hy]; exact hc) hcs 1
  obtain ⟨pc, hpk, hpc⟩ := peek_stop hs1 hst
  replace htok := Aside0.mk htok; replace hpk := Aside0.mk hpk; replace hX := Aside0.mk hX
  have hb := below_alloc (Below.refl w.heap.size w) (.cells #[.int .i64 3, .string t, .int .i64 num, .slice A3 r1 c3, .slice A4 r2 c4, .slice A5 r3 c5, .string it, .string kn, .string vn, .slice A9 r4 c9] 28)
  have hk1 := heap_new w (.cells #[.int .i64 3, .string t, .int .i64 num, .slice A3 r1 c3, .slice A4 r2 c4, .slice A5 r3 c5, .string it, .string kn, .string vn, .slice A9 r4 c9] 28)
  have hI1 := Aside0.mk (hI.below hb)
  have hB1 := Aside0.mk (hB.trans (below_low hb (IsS80.ge hI) (IsS80.lt hI)))
  have hK1 := Aside0.mk (KeepBut.of_below hb g none)
  clear hI hB hb hN hs hT hy hc hcs ht hn0 hn1
  go_enter Tryz.func36, Tryz.ntmps36
  go_wp2_with fail
  generalize w.alloc (.cells #[.int .i64 3, .string t, .int .i64 num, .slice A3 r1 c3, .slice A4 r2 c4, .slice A5 r3 c5, .string it, .string kn, .string vn, .slice A9 r4 c9] 28) = w1 at *
  obtain ⟨nb, hnb⟩ : ∃ nb, w.heap.size = nb := ⟨_, rfl⟩
  rw [hnb] at hk1 ⊢
  clear hnb
  have q0 := cell_at hk1 0; have q1 := cell_at hk1 1; have q2 := cell_at hk1 2
  simp at q0 q1 q2
  refine (hX.out w1).mono ?_
  rintro e w2 ⟨rfl, hb2⟩
  have hI2 := Aside0.mk (hI1.out.below hb2); have hB2 := Aside0.mk (hB1.out.trans (below_low hb2 (IsS80.ge hI1.out) (IsS80.lt hI1.out))); have hK2 := Aside0.mk (hK1.out.trans (KeepBut.of_below hb2 g none) (.inl rfl))
  clear hb2 hI1 hB1 hK1 q0 q1 q2 hk1
  go_wp2_with fail
  refine (spec_reader_token.calls _ g s false T s1 false w0 w2 hI2.out hB2.out htok.out).mono ?_
  rintro e w3 ⟨rfl, hI3, hB3, hK3⟩
  replace hI3 := Aside0.mk hI3; replace hB3 := Aside0.mk hB3; replace hK3 := Aside0.mk (hK2.out.trans hK3 (.inl rfl))
  go_wp2_with fail
  refine (spec_reader_peek.calls g s1 false pc s1 false w0 w3 hI3.out hB3.out hpk.out).mono ?_
  rintro e w4 ⟨rfl, hI4, hB4, hK4⟩
  replace hI4 := Aside0.mk hI4; replace hB4 := Aside0.mk hB4; replace hK4 := Aside0.mk (hK3.out.trans hK4 (.inl rfl))
  clear hI2 hB2 hK2 hI3 hB3 hK3 hpk htok hX
  rcases hpc with rfl | rfl | rfl | rfl
  all_goals
    go_wp2
    refine bodyPost_end (results_none rfl _ _ _) rfl ?_
    exact ⟨rfl, s1, hs1, hI4.out, hB4.out, hK4.out⟩
set_option maxHeartbeats 8000000 in
set_option maxRecDepth 100000 in
theorem invT4 (w0 : World) (t it kn vn : ByteArray) (num : Int) (names : List ByteArray) (kids : List S28) (fl : List Bool) (at' : List S45) (ht : t.size ≤ 2147483647) (hn0 : -9223372036854775808 ≤ num) (hn1 : num ≤ 9223372036854775807) {ys r : List Int} {c : Int} (hy : bytesOf (textS 4 t num) = ys) (hc : ys = c :: r) (hcs : c ≠ 32 ∧ c ≠ 9 ∧ c ≠ 10 ∧ c ≠ 13) :
    InV w0 ⟨4, t, num, names, kids, fl, it, kn, vn, at'⟩ ys := by
  intro p g w s l hN hI hB hs hst
  obtain ⟨A3, c3, A4, c4, A5, c5, A9, c9⟩ := p
  unfold NV
  dsimp only
  obtain ⟨r1, hr1⟩ : ∃ r1, names.length = r1 := ⟨_, rfl⟩
  obtain ⟨r2, hr2⟩ : ∃ r2, kids.length = r2 := ⟨_, rfl⟩
  obtain ⟨r3, hr3⟩ : ∃ r3, fl.length = r3 := ⟨_, rfl⟩
  obtain ⟨r4, hr4⟩ : ∃ r4, at'.length = r4 := ⟨_, rfl⟩
  rw [hr1, hr2, hr3, hr4]
  clear hr1 hr2 hr3 hr4
  have hX := fun w => text_call 4 t num w ht hn0 hn1
  obtain ⟨T, hT⟩ : ∃ T, textS 4 t num = T := ⟨_, rfl⟩
  rw [hT] at hX hy
  obtain ⟨s1, htok, hs1⟩ := tokenN (t := T) (s := s) (l := l) (by rw [hy]; exact hs) (by rw [hy]; exact hc) hcs 1
  obtain ⟨pc, hpk, hpc⟩ := peek_stop hs1 hst
  replace htok := Aside0.mk htok; replace hpk := Aside0.mk hpk; replace hX := Aside0.mk hX
  have hb := below_alloc (Below.refl w.heap.size w) (.cells #[.int .i64 4, .string t, .int .i64 num, .slice A3 r1 c3, .slice A4 r2 c4, .slice A5 r3 c5, .string it, .string kn, .string vn, .slice A9 r4 c9] 28)
  have hk1 := heap_new w (.cells #[.int .i64 4, .string t, .int .i64 num, .slice A3 r1 c3, .slice A4 r2 c4, .slice A5 r3 c5, .string it, .string kn, .string vn, .slice A9 r4 c9] 28)
  have hI1 := Aside0.mk (hI.below hb)
  have hB1 := Aside0.mk (hB.trans (below_low hb (IsS80.ge hI) (IsS80.lt hI)))
  have hK1 := Aside0.mk (KeepBut.of_below hb g none)
  clear hI hB hb hN hs hT hy hc hcs ht hn0 hn1
  go_enter Tryz.func36, Tryz.ntmps36
  go_wp2_with fail
  generalize w.alloc (.cells #[.int .i64 4, .string t, .int .i64 num, .slice A3 r1 c3, .slice A4 r2 c4, .slice A5 r3 c5, .string it, .string kn, .string vn, .slice A9 r4 c9] 28) = w1 at *
  obtain ⟨nb, hnb⟩ : ∃ nb, w.heap.size = nb := ⟨_, rfl⟩
  rw [hnb] at hk1 ⊢
  clear hnb
  have q0 := cell_at hk1 0; have q1 := cell_at hk1 1; have q2 := cell_at hk1 2
  simp at q0 q1 q2
  refine (hX.out w1).mono ?_
  rintro e w2 ⟨rfl, hb2⟩
  have hI2 := Aside0.mk (hI1.out.below hb2); have hB2 := Aside0.mk (hB1.out.trans (below_low hb2 (IsS80.ge hI1.out) (IsS80.lt hI1.out))); have hK2 := Aside0.mk (hK1.out.trans (KeepBut.of_below hb2 g none) (.inl rfl))
  clear hb2 hI1 hB1 hK1 q0 q1 q2 hk1
  go_wp2_with fail
  refine (spec_reader_token.calls _ g s false T s1 false w0 w2 hI2.out hB2.out htok.out).mono ?_
  rintro e w3 ⟨rfl, hI3, hB3, hK3⟩
  replace hI3 := Aside0.mk hI3; replace hB3 := Aside0.mk hB3; replace hK3 := Aside0.mk (hK2.out.trans hK3 (.inl rfl))
  go_wp2_with fail
  refine (spec_reader_peek.calls g s1 false pc s1 false w0 w3 hI3.out hB3.out hpk.out).mono ?_
  rintro e w4 ⟨rfl, hI4, hB4, hK4⟩
  replace hI4 := Aside0.mk hI4; replace hB4 := Aside0.mk hB4; replace hK4 := Aside0.mk (hK3.out.trans hK4 (.inl rfl))
  clear hI2 hB2 hK2 hI3 hB3 hK3 hpk htok hX
  rcases hpc with rfl | rfl | rfl | rfl
  all_goals
    go_wp2
    refine bodyPost_end (results_none rfl _ _ _) rfl ?_
    exact ⟨rfl, s1, hs1, hI4.out, hB4.out, hK4.out⟩
set_option maxHeartbeats 8000000 in
set_option maxRecDepth 100000 in
theorem invT5 (w0 : World) (t it kn vn : ByteArray) (num : Int) (names : List ByteArray) (kids : List S28) (fl : List Bool) (at' : List S45) (ht : t.size ≤ 2147483647) (hn0 : -9223372036854775808 ≤ num) (hn1 : num ≤ 9223372036854775807) {ys r : List Int} {c : Int} (hy : bytesOf (textS 5 t num) = ys) (hc : ys = c :: r) (hcs : c ≠ 32 ∧ c ≠ 9 ∧ c ≠ 10 ∧ c ≠ 13) :
    InV w0 ⟨5, t, num, names, kids, fl, it, kn, vn, at'⟩ ys := by
  intro p g w s l hN hI hB hs hst
  obtain ⟨A3, c3, A4, c4, A5, c5, A9, c9⟩ := p
  unfold NV
  dsimp only
  obtain ⟨r1, hr1⟩ : ∃ r1, names.length = r1 := ⟨_, rfl⟩
  obtain ⟨r2, hr2⟩ : ∃ r2, kids.length = r2 := ⟨_, rfl⟩
  obtain ⟨r3, hr3⟩ : ∃ r3, fl.length = r3 := ⟨_, rfl⟩
  obtain ⟨r4, hr4⟩ : ∃ r4, at'.length = r4 := ⟨_, rfl⟩
  rw [hr1, hr2, hr3, hr4]
  clear hr1 hr2 hr3 hr4
  have hX := fun w => text_call 5 t num w ht hn0 hn1
  obtain ⟨T, hT⟩ : ∃ T, textS 5 t num = T := ⟨_, rfl⟩
  rw [hT] at hX hy
  obtain ⟨s1, htok, hs1⟩ := tokenN (t := T) (s := s) (l := l) (by rw [hy]; exact hs) (by rw [hy]; exact hc) hcs 1
  obtain ⟨pc, hpk, hpc⟩ := peek_stop hs1 hst
  replace htok := Aside0.mk htok; replace hpk := Aside0.mk hpk; replace hX := Aside0.mk hX
  have hb := below_alloc (Below.refl w.heap.size w) (.cells #[.int .i64 5, .string t, .int .i64 num, .slice A3 r1 c3, .slice A4 r2 c4, .slice A5 r3 c5, .string it, .string kn, .string vn, .slice A9 r4 c9] 28)
  have hk1 := heap_new w (.cells #[.int .i64 5, .string t, .int .i64 num, .slice A3 r1 c3, .slice A4 r2 c4, .slice A5 r3 c5, .string it, .string kn, .string vn, .slice A9 r4 c9] 28)
  have hI1 := Aside0.mk (hI.below hb)
  have hB1 := Aside0.mk (hB.trans (below_low hb (IsS80.ge hI) (IsS80.lt hI)))
  have hK1 := Aside0.mk (KeepBut.of_below hb g none)
  clear hI hB hb hN hs hT hy hc hcs ht hn0 hn1
  go_enter Tryz.func36, Tryz.ntmps36
  go_wp2_with fail
  generalize w.alloc (.cells #[.int .i64 5, .string t, .int .i64 num, .slice A3 r1 c3, .slice A4 r2 c4, .slice A5 r3 c5, .string it, .string kn, .string vn, .slice A9 r4 c9] 28) = w1 at *
  obtain ⟨nb, hnb⟩ : ∃ nb, w.heap.size = nb := ⟨_, rfl⟩
  rw [hnb] at hk1 ⊢
  clear hnb
  have q0 := cell_at hk1 0; have q1 := cell_at hk1 1; have q2 := cell_at hk1 2
  simp at q0 q1 q2
  refine (hX.out w1).mono ?_
  rintro e w2 ⟨rfl, hb2⟩
  have hI2 := Aside0.mk (hI1.out.below hb2); have hB2 := Aside0.mk (hB1.out.trans (below_low hb2 (IsS80.ge hI1.out) (IsS80.lt hI1.out))); have hK2 := Aside0.mk (hK1.out.trans (KeepBut.of_below hb2 g none) (.inl rfl))
  clear hb2 hI1 hB1 hK1 q0 q1 q2 hk1
  go_wp2_with fail
  refine (spec_reader_token.calls _ g s false T s1 false w0 w2 hI2.out hB2.out htok.out).mono ?_
  rintro e w3 ⟨rfl, hI3, hB3, hK3⟩
  replace hI3 := Aside0.mk hI3; replace hB3 := Aside0.mk hB3; replace hK3 := Aside0.mk (hK2.out.trans hK3 (.inl rfl))
  go_wp2_with fail
  refine (spec_reader_peek.calls g s1 false pc s1 false w0 w3 hI3.out hB3.out hpk.out).mono ?_
  rintro e w4 ⟨rfl, hI4, hB4, hK4⟩
  replace hI4 := Aside0.mk hI4; replace hB4 := Aside0.mk hB4; replace hK4 := Aside0.mk (hK3.out.trans hK4 (.inl rfl))
  clear hI2 hB2 hK2 hI3 hB3 hK3 hpk htok hX
  rcases hpc with rfl | rfl | rfl | rfl
  all_goals
    go_wp2
    refine bodyPost_end (results_none rfl _ _ _) rfl ?_
    exact ⟨rfl, s1, hs1, hI4.out, hB4.out, hK4.out⟩
set_option maxHeartbeats 8000000 in
set_option maxRecDepth 100000 in
theorem invT11 (w0 : World) (t it kn vn : ByteArray) (num : Int) (names : List ByteArray) (kids : List S28) (fl : List Bool) (at' : List S45) (ht : t.size ≤ 2147483647) (hn0 : -9223372036854775808 ≤ num) (hn1 : num ≤ 9223372036854775807) {ys r : List Int} {c : Int} (hy : bytesOf (textS 11 t num) = ys) (hc : ys = c :: r) (hcs : c ≠ 32 ∧ c ≠ 9 ∧ c ≠ 10 ∧ c ≠ 13) :
    InV w0 ⟨11, t, num, names, kids, fl, it, kn, vn, at'⟩ ys := by
  intro p g w s l hN hI hB hs hst
  obtain ⟨A3, c3, A4, c4, A5, c5, A9, c9⟩ := p
  unfold NV
  dsimp only
  obtain ⟨r1, hr1⟩ : ∃ r1, names.length = r1 := ⟨_, rfl⟩
  obtain ⟨r2, hr2⟩ : ∃ r2, kids.length = r2 := ⟨_, rfl⟩
  obtain ⟨r3, hr3⟩ : ∃ r3, fl.length = r3 := ⟨_, rfl⟩
  obtain ⟨r4, hr4⟩ : ∃ r4, at'.length = r4 := ⟨_, rfl⟩
  rw [hr1, hr2, hr3, hr4]
  clear hr1 hr2 hr3 hr4
  have hX := fun w => text_call 11 t num w ht hn0 hn1
  obtain ⟨T, hT⟩ : ∃ T, textS 11 t num = T := ⟨_, rfl⟩
  rw [hT] at hX hy
  obtain ⟨s1, htok, hs1⟩ := tokenN (t := T) (s := s) (l := l) (by rw [hy]; exact hs) (by rw [hy]; exact hc) hcs 1
  obtain ⟨pc, hpk, hpc⟩ := peek_stop hs1 hst
  replace htok := Aside0.mk htok; replace hpk := Aside0.mk hpk; replace hX := Aside0.mk hX
  have hb := below_alloc (Below.refl w.heap.size w) (.cells #[.int .i64 11, .string t, .int .i64 num, .slice A3 r1 c3, .slice A4 r2 c4, .slice A5 r3 c5, .string it, .string kn, .string vn, .slice A9 r4 c9] 28)
  have hk1 := heap_new w (.cells #[.int .i64 11, .string t, .int .i64 num, .slice A3 r1 c3, .slice A4 r2 c4, .slice A5 r3 c5, .string it, .string kn, .string vn, .slice A9 r4 c9] 28)
  have hI1 := Aside0.mk (hI.below hb)
  have hB1 := Aside0.mk (hB.trans (below_low hb (IsS80.ge hI) (IsS80.lt hI)))
  have hK1 := Aside0.mk (KeepBut.of_below hb g none)
  clear hI hB hb hN hs hT hy hc hcs ht hn0 hn1
  go_enter Tryz.func36, Tryz.ntmps36
  go_wp2_with fail
  generalize w.alloc (.cells #[.int .i64 11, .string t, .int .i64 num, .slice A3 r1 c3, .slice A4 r2 c4, .slice A5 r3 c5, .string it, .string kn, .string vn, .slice A9 r4 c9] 28) = w1 at *
  obtain ⟨nb, hnb⟩ : ∃ nb, w.heap.size = nb := ⟨_, rfl⟩
  rw [hnb] at hk1 ⊢
  clear hnb
  have q0 := cell_at hk1 0; have q1 := cell_at hk1 1; have q2 := cell_at hk1 2
  simp at q0 q1 q2
  refine (hX.out w1).mono ?_
  rintro e w2 ⟨rfl, hb2⟩
  have hI2 := Aside0.mk (hI1.out.below hb2); have hB2 := Aside0.mk (hB1.out.trans (below_low hb2 (IsS80.ge hI1.out) (IsS80.lt hI1.out))); have hK2 := Aside0.mk (hK1.out.trans (KeepBut.of_below hb2 g none) (.inl rfl))
  clear hb2 hI1 hB1 hK1 q0 q1 q2 hk1
  go_wp2_with fail
  refine (spec_reader_token.calls _ g s false T s1 false w0 w2 hI2.out hB2.out htok.out).mono ?_
  rintro e w3 ⟨rfl, hI3, hB3, hK3⟩
  replace hI3 := Aside0.mk hI3; replace hB3 := Aside0.mk hB3; replace hK3 := Aside0.mk (hK2.out.trans hK3 (.inl rfl))
  go_wp2_with fail
  refine (spec_reader_peek.calls g s1 false pc s1 false w0 w3 hI3.out hB3.out hpk.out).mono ?_
  rintro e w4 ⟨rfl, hI4, hB4, hK4⟩
  replace hI4 := Aside0.mk hI4; replace hB4 := Aside0.mk hB4; replace hK4 := Aside0.mk (hK3.out.trans hK4 (.inl rfl))
  clear hI2 hB2 hK2 hI3 hB3 hK3 hpk htok hX
  rcases hpc with rfl | rfl | rfl | rfl
  all_goals
    go_wp2
    refine bodyPost_end (results_none rfl _ _ _) rfl ?_
    exact ⟨rfl, s1, hs1, hI4.out, hB4.out, hK4.out⟩
set_option maxHeartbeats 4000000 in
set_option maxRecDepth 100000 in
theorem inv10 (w0 : World) (t it kn vn : ByteArray) (num : Int) (names : List ByteArray) (kids : List S28) (fl : List Bool) (at' : List S45) : InV w0 ⟨10, t, num, names, kids, fl, it, kn, vn, at'⟩ (bytesOf ⟨#[110, 117, 108, 108]⟩) := by
  intro p g w s l hN hI hB hs hst
  obtain ⟨A3, c3, A4, c4, A5, c5, A9, c9⟩ := p
  unfold NV
  dsimp only
  obtain ⟨r1, hr1⟩ : ∃ r1, names.length = r1 := ⟨_, rfl⟩
  obtain ⟨r2, hr2⟩ : ∃ r2, kids.length = r2 := ⟨_, rfl⟩
  obtain ⟨r3, hr3⟩ : ∃ r3, fl.length = r3 := ⟨_, rfl⟩
  obtain ⟨r4, hr4⟩ : ∃ r4, at'.length = r4 := ⟨_, rfl⟩
  rw [hr1, hr2, hr3, hr4]
  clear hr1 hr2 hr3 hr4
  obtain ⟨s1, htok, hs1⟩ := tokenN (t := ⟨#[110, 117, 108, 108]⟩) (c := 110) (r := [117, 108, 108]) hs (by decide) (by decide) 1
  replace htok := Aside0.mk htok
  have hb := below_alloc (Below.refl w.heap.size w) (.cells #[.int .i64 10, .string t, .int .i64 num, .slice A3 r1 c3, .slice A4 r2 c4, .slice A5 r3 c5, .string it, .string kn, .string vn, .slice A9 r4 c9] 28)
  have hI1 := Aside0.mk (hI.below hb)
  have hB1 := Aside0.mk (hB.trans (below_low hb (IsS80.ge hI) (IsS80.lt hI)))
  have hK1 := Aside0.mk (KeepBut.of_below hb g none)
  clear hI hB hb hN hs
  go_enter Tryz.func36, Tryz.ntmps36
  go_wp2_with fail
  generalize w.alloc (.cells #[.int .i64 10, .string t, .int .i64 num, .slice A3 r1 c3, .slice A4 r2 c4, .slice A5 r3 c5, .string it, .string kn, .string vn, .slice A9 r4 c9] 28) = w1 at *
  refine (spec_reader_token.calls _ g s false _ s1 false w0 w1 hI1.out hB1.out htok.out).mono ?_
  rintro e w2 ⟨rfl, hI2, hB2, hK2⟩
  replace hI2 := Aside0.mk hI2; replace hB2 := Aside0.mk hB2; replace hK2 := Aside0.mk (hK1.out.trans hK2 (.inl rfl))
  go_wp2
  refine bodyPost_end (results_none rfl _ _ _) rfl ?_
  exact ⟨rfl, s1, hs1, hI2.out, hB2.out, hK2.out⟩
end H
end Go.Proofs.YtkihaebaccdjdaaGreatDoor
