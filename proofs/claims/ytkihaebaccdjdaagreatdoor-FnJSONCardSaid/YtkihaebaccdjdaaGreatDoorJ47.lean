import Derived.Test.YtkihaebaccdjdaaGreatDoorJ31
import Derived.Test.YtkihaebaccdjdaaGreatDoorJ35
import Derived.Test.YtkihaebaccdjdaaGreatDoorJ14
import Derived.Test.YtkihaebaccdjdaaGreatDoorJ46
import Derived.Deep.RegionHeld3
set_option linter.unusedVariables false
set_option linter.unusedSimpArgs false
namespace Go.Proofs.YtkihaebaccdjdaaGreatDoor
open Go.RowKit Go.Proofs.YtkihaebaccdjdaaGreatDoorW.PrintWords Go.Proofs.YtkihaebaccdjdaaGreatDoorW.PrintLast Go.Proofs.YtkihaebaccdjdaaGreatDoorW.PrintMore
open PX
namespace H
/-! ### isTree, with function 51 -/
theorem part_f (x : S28) (flat : Bool) : ∃ b, spec_isPart.f 1 x.f0 x.f1 x.f2 x.f3 x.f4 x.f5 x.f6 x.f7 x.f8 x.f9 flat = some b ∧ (b = true → PartP x flat) := by
  have hsc : ∃ c, spec_isScalar.f x.f0 = some c ∧ (c = true → Scal x.f0) := by
    unfold spec_isScalar.f Scal
    split
    · split
      · exact ⟨_, rfl, fun _ => by omega⟩
      · split
        · exact ⟨_, rfl, fun _ => by omega⟩
        · exact ⟨_, rfl, fun h => by have := beq_iff_eq.1 h; omega⟩
    · split
      · exact ⟨_, rfl, fun _ => by omega⟩
      · exact ⟨_, rfl, fun h => by have := beq_iff_eq.1 h; omega⟩
  obtain ⟨c, hc, hcs⟩ := hsc
  have nil_of : ∀ {α : Type} (l : List α), (l.length : Int) = 0 → l = [] := fun l h => List.eq_nil_of_length_eq_zero (by omega)
  have hj : ∀ pl, (pl = true → x.f3 = [] ∧ x.f4 = [] ∧ x.f5 = []) → ∃ b, spec_isPart.j0 1 flat pl x.f0 x.f1 x.f2 x.f3 x.f4 x.f5 x.f6 x.f7 x.f8 x.f9 = some b ∧ (b = true → PartP x flat) := by
    intro pl hpl
    simp only [spec_isPart.j0, hc, Option.bind_some]
    split
    · rename_i h1
      split
      · rename_i h2
        refine ⟨_, rfl, fun h => .inl ⟨hcs h1, (hpl h2).1, (hpl h2).2.1, (hpl h2).2.2, by simpa using h⟩⟩
      · exact ⟨_, rfl, fun h => by cases h⟩
    · split
      · rename_i h8
        split
        · rename_i h3
          exact ⟨_, rfl, fun h => .inr (.inl ⟨h8, nil_of _ h3, nil_of _ (beq_iff_eq.1 h)⟩)⟩
        · exact ⟨_, rfl, fun h => by cases h⟩
      · split
        · rename_i h9
          split
          · rename_i h3
            exact ⟨_, rfl, fun h => .inr (.inr (.inl ⟨h9, by omega, nil_of _ (beq_iff_eq.1 h)⟩))⟩
          · exact ⟨_, rfl, fun h => by cases h⟩
        · split
          · rename_i h7
            split
            · rename_i h3
              split
              · rename_i h4
                exact ⟨_, rfl, fun h => .inr (.inr (.inr ⟨h7, by omega, by omega, by simpa using h⟩))⟩
              · exact ⟨_, rfl, fun h => by cases h⟩
            · exact ⟨_, rfl, fun h => by cases h⟩
          · exact ⟨_, rfl, fun h => by cases h⟩
  unfold spec_isPart.f
  split
  · rename_i h3
    split
    · rename_i h4
      exact hj _ (fun h => ⟨nil_of _ h3, nil_of _ h4, nil_of _ (beq_iff_eq.1 h)⟩)
    · exact hj _ (fun h => by cases h)
  · exact hj _ (fun h => by cases h)
set_option maxHeartbeats 8000000 in
set_option maxRecDepth 100000 in
theorem tree51 {is : S28 → Bool → Prop} {g : Nat}
    (his : ∀ (x : S28) (flat : Bool) (p : NA) (w : World), NH w x p → Sz 1 x → bytN x ≤ 20000 → x.f4.length ≤ 200 → x.f3.length ≤ 200 → x.f5.length ≤ 200 → x.f9.length ≤ 20 → PartP x flat →
      Calls Tryz.prog 51 #[NV x p, .bool flat] w fun e w' => ∃ b : Bool, e = .returned (.bool b) ∧ Below w.heap.size w w' ∧ (b = true → is x flat)) :
    ∀ (l : Nat) (x : S28) (flat : Bool) (p : NA) (w0 w : World) (c0 c1 : Int), l ≤ 7 → NH w0 x p → Below w0.heap.size w0 w → w0.heap.size ≤ g → w.heap[g]? = some (.cells #[.int .i64 c0, .int .i64 c1] 50 (0, 0)) → (0 ≤ c0 ∧ c0 ≤ 2000) → (0 ≤ c1 ∧ c1 ≤ 20000) → Sz l x →
    Calls Tryz.prog 25 #[.pointer (some ⟨g, 0, none⟩), NV x p, .bool flat, .int .i64 (l : Int), .func (.func 51) #[] #[]] w fun e w' => ∃ (b : Bool) (a c : Int), e = .returned (.bool b) ∧ w'.heap[g]? = some (.cells #[.int .i64 a, .int .i64 c] 50 (0, 0)) ∧ Fr (fun k => k = g) w w' ∧
      (b = true → Tree is l x flat ∧ a = c0 + cntL l x ∧ c = c1 + bytL l x ∧ a ≤ 2000 ∧ c ≤ 20000) := by
  intro l
  induction l with
  | zero =>
    intro x flat p w0 w c0 c1 hl hN hb hg0 hg hc0 hc1 hs
    obtain ⟨A3, c3, A4, c4, A5, c5, A9, c9⟩ := p
    replace hN := Aside0.mk hN; replace hb := Aside0.mk hb; replace hc0 := Aside0.mk hc0; replace hc1 := Aside0.mk hc1
    have hF := Aside0.mk (Fr.of_below (S := fun k => k = g) (below_alloc (Below.refl w.heap.size w) (.cells #[.int .i64 x.f0, .string x.f1, .int .i64 x.f2, .slice A3 x.f3.length c3, .slice A4 x.f4.length c4, .slice A5 x.f5.length c5, .string x.f6, .string x.f7, .string x.f8, .slice A9 x.f9.length c9] 28)))
    have hg' := Aside0.mk (heap_old hg (.cells #[.int .i64 x.f0, .string x.f1, .int .i64 x.f2, .slice A3 x.f3.length c3, .slice A4 x.f4.length c4, .slice A5 x.f5.length c5, .string x.f6, .string x.f7, .string x.f8, .slice A9 x.f9.length c9] 28))
    clear hg
    unfold NV
    dsimp only
    go_enter Tryz.func25, Tryz.ntmps25
    go_wp2_with fail
    go_wp2
    (try go_ret)
    exact ⟨false, c0, c1, rfl, hg'.out, hF.out, fun h => by cases h⟩
  | succ l ih =>
    intro x flat p w0 w c0 c1 hl hN hb hg0 hg hc0 hc1 hs
    suffices h : ∀ Q : Ending → World → Prop, (∀ (b : Bool) (a c : Int) (w' : World), w'.heap[g]? = some (.cells #[.int .i64 a, .int .i64 c] 50 (0, 0)) → Fr (fun k => k = g) w w' → (b = true → Tree is (l + 1) x flat ∧ a = c0 + cntL (l + 1) x ∧ c = c1 + bytL (l + 1) x ∧ a ≤ 2000 ∧ c ≤ 20000) → Q (.returned (.bool b)) w') →
        Calls Tryz.prog 25 #[.pointer (some ⟨g, 0, none⟩), NV x p, .bool flat, .int .i64 ((l + 1 : Nat) : Int), .func (.func 51) #[] #[]] w Q from
      h _ (fun b a c w' h1 h2 h3 => ⟨b, a, c, rfl, h1, h2, h3⟩)
    intro Q hQ
    obtain ⟨A3, c3, A4, c4, A5, c5, A9, c9⟩ := p
    have hsz : Aside0 (Sz 1 x) := .mk ⟨hs.1, fun _ _ => trivial⟩
    have hs2 := Aside0.mk hs.2
    have hb1 := below_alloc (Below.refl w.heap.size w) (.cells #[.int .i64 x.f0, .string x.f1, .int .i64 x.f2, .slice A3 x.f3.length c3, .slice A4 x.f4.length c4, .slice A5 x.f5.length c5, .string x.f6, .string x.f7, .string x.f8, .slice A9 x.f9.length c9] 28)
    have kn := heap_new w (.cells #[.int .i64 x.f0, .string x.f1, .int .i64 x.f2, .slice A3 x.f3.length c3, .slice A4 x.f4.length c4, .slice A5 x.f5.length c5, .string x.f6, .string x.f7, .string x.f8, .slice A9 x.f9.length c9] 28)
    have kg := heap_below hb1 hg
    have ng : Aside0 (w.heap.size ≠ g) := .mk (by have := lt_of hg; omega)
    have hgl := Aside0.mk (lt_of hg)
    have hF1 := Aside0.mk (Fr.of_below (S := fun k => k = g) hb1)
    have hB1 := Aside0.mk (bel_fr hb hF1.out (fun k hk => by omega))
    have e0 : ((((l + 1 : Nat) : Int)) == 0) = false := by simp; omega
    have e1 : IntKind.i64.wrap (((l + 1 : Nat) : Int) - 1) = (l : Int) := by rw [w64i _ (by omega) (by omega)]; omega
    obtain ⟨lv, hlv⟩ : ∃ lv : Int, ((l + 1 : Nat) : Int) = lv := ⟨_, rfl⟩
    rw [hlv] at e0 e1 ⊢
    clear hs hb1 hg
    replace hQ := Aside0.mk hQ; replace hN := Aside0.mk hN; replace hb := Aside0.mk hb; replace hc0 := Aside0.mk hc0; replace hc1 := Aside0.mk hc1; replace his := Aside0.mk his; replace ih := Aside0.mk ih
    replace kn := Aside0.mk kn; replace kg := Aside0.mk kg; replace hlv := Aside0.mk hlv; replace hl := Aside0.mk hl
    unfold NV
    dsimp only
    go_enter Tryz.func25, Tryz.ntmps25
    go_wp2_with fail
    generalize w.alloc (.cells #[.int .i64 x.f0, .string x.f1, .int .i64 x.f2, .slice A3 x.f3.length c3, .slice A4 x.f4.length c4, .slice A5 x.f5.length c5, .string x.f6, .string x.f7, .string x.f8, .slice A9 x.f9.length c9] 28) = w1 at *
    obtain ⟨nb, hnb⟩ : ∃ nb, w.heap.size = nb := ⟨_, rfl⟩
    rw [hnb] at kn ng hgl ⊢
    have m0 := cell_at kn.out 0; have m1 := cell_at kn.out 1; have m2 := cell_at kn.out 2; have m3 := cell_at kn.out 3; have m4 := cell_at kn.out 4; have m5 := cell_at kn.out 5; have m6 := cell_at kn.out 6; have m7 := cell_at kn.out 7; have m8 := cell_at kn.out 8; have m9 := cell_at kn.out 9
    simp at m0 m1 m2 m3 m4 m5 m6 m7 m8 m9
    go_wp2_with fail
    have ht := take_call hN.out hB1.out hg0 kg.out hc0.out hc1.out hsz.out
    unfold NV at ht
    refine ht.mono ?_
    clear ht
    rintro e w2 ⟨b, v, rfl, kg2, hF, hbt⟩
    have kn2 := Aside0.mk (hF.heap kn.out ng.out)
    have hF2 := Aside0.mk (hF1.out.trans hF (fun _ _ h => h))
    have hB2 := Aside0.mk (bel_fr hB1.out hF (fun k hk => by omega))
    replace kg2 := Aside0.mk kg2; replace hbt := Aside0.mk hbt
    clear hF hF1 kg m0 m1 m2 m3 m4 m5 m6 m7 m8 m9
    have m0 := cell_at kn2.out 0; have m1 := cell_at kn2.out 1; have m2 := cell_at kn2.out 2; have m3 := cell_at kn2.out 3; have m4 := cell_at kn2.out 4; have m5 := cell_at kn2.out 5; have m6 := cell_at kn2.out 6; have m7 := cell_at kn2.out 7; have m8 := cell_at kn2.out 8; have m9 := cell_at kn2.out 9
    simp at m0 m1 m2 m3 m4 m5 m6 m7 m8 m9
    cases b
    · go_wp2
      (try go_ret)
      exact hQ.out _ _ _ _ kg2.out hF2.out (fun h => by cases h)
    replace hbt := Aside0.mk (hbt.out rfl)
    go_wp2_with fail
    obtain ⟨pb, hpf, hpp⟩ := part_f x flat
    have hN2 := hN.out.below hB2.out
    have hp := spec_isPart.calls 1 x.f0 x.f1 x.f2 A3 c3 x.f3 A4 c4 x.f4 A5 c5 x.f5 x.f6 x.f7 x.f8 A9 c9 x.f9 flat pb w2 hN2.h3 hN2.l3 hN2.h4 hN2.l4 hN2.h5 hN2.l5 hN2.h9 hN2.l9 hpf
    refine hp.mono ?_
    rintro e w3 ⟨rfl, hb3⟩
    have kn3 := Aside0.mk (heap_below hb3 kn2.out)
    have kg3 := Aside0.mk (heap_below hb3 kg2.out)
    have hF3 := Aside0.mk (hF2.out.trans (Fr.of_below (S := fun _ => False) hb3) (fun _ _ h => h.elim))
    have hB3 := Aside0.mk (bel_fr hB2.out (Fr.of_below (S := fun _ => False) hb3) (fun _ h => h.elim))
    have hN3 := Aside0.mk (hN2.below hb3)
    replace hpp := Aside0.mk hpp
    clear hp hb3 hN2 hpf m0 m1 m2 m3 m4 m5 m6 m7 m8 m9
    have m0 := cell_at kn3.out 0; have m1 := cell_at kn3.out 1; have m2 := cell_at kn3.out 2; have m3 := cell_at kn3.out 3; have m4 := cell_at kn3.out 4; have m5 := cell_at kn3.out 5; have m6 := cell_at kn3.out 6; have m7 := cell_at kn3.out 7; have m8 := cell_at kn3.out 8; have m9 := cell_at kn3.out 9
    simp at m0 m1 m2 m3 m4 m5 m6 m7 m8 m9
    cases pb
    · go_wp2
      (try go_ret)
      exact hQ.out _ _ _ _ kg3.out hF3.out (fun h => by cases h)
    replace hpp := Aside0.mk (hpp.out rfl)
    go_wp2_with fail
    have hi := his.out x flat ⟨A3, c3, A4, c4, A5, c5, A9, c9⟩ w3 hN3.out hsz.out (by have := hbt.out; have := hc1.out; omega) hbt.out.2.2.2.1 hbt.out.2.2.2.2.1 hbt.out.2.2.2.2.2.1 hbt.out.2.2.2.2.2.2 hpp.out
    unfold NV at hi
    refine hi.mono ?_
    rintro e w4 ⟨ib, rfl, hb4, hii⟩
    have kn4 := Aside0.mk (heap_below hb4 kn3.out)
    have kg4 := Aside0.mk (heap_below hb4 kg3.out)
    have hF4 := Aside0.mk (hF3.out.trans (Fr.of_below (S := fun _ => False) hb4) (fun _ _ h => h.elim))
    replace hii := Aside0.mk hii
    clear hi hb4 hN3 hB3 hB2 hF2 hF3 kg2 kg3 kn2 kn3 kn hB1 m0 m1 m2 m3 m4 m5 m6 m7 m8 m9
    have m0 := cell_at kn4.out 0; have m1 := cell_at kn4.out 1; have m2 := cell_at kn4.out 2; have m3 := cell_at kn4.out 3; have m4 := cell_at kn4.out 4; have m5 := cell_at kn4.out 5; have m6 := cell_at kn4.out 6; have m7 := cell_at kn4.out 7; have m8 := cell_at kn4.out 8; have m9 := cell_at kn4.out 9
    simp at m0 m1 m2 m3 m4 m5 m6 m7 m8 m9
    cases ib
    · go_wp2
      (try go_ret)
      exact hQ.out _ _ _ _ kg4.out hF4.out (fun h => by cases h)
    replace hii := Aside0.mk (hii.out rfl)
    clear m0 m1 m2 m3 m5 m6 m7 m8 m9
    go_wp2_with fail
    go_loopg [37] x.f4.length (fun q' v37 w' => ∃ (i : Nat) (a b : Int), v37 = .int .i64 (i : Int) ∧ q' + i = x.f4.length ∧ Aside0 (w'.heap[g]? = some (.cells #[.int .i64 a, .int .i64 b] 50 (0, 0))) ∧ Aside0 (w'.heap[nb]? = some (.cells #[.int .i64 x.f0, .string x.f1, .int .i64 x.f2, .slice A3 x.f3.length c3, .slice A4 x.f4.length c4, .slice A5 x.f5.length c5, .string x.f6, .string x.f7, .string x.f8, .slice A9 x.f9.length c9] 28 (0, 0))) ∧ Aside0 (Fr (fun k => k = g) w w') ∧
      Aside0 (a = c0 + 1 + (((x.f4.take i).map (cntL l)).sum : Int) ∧ b = c1 + bytN x + (((x.f4.take i).map (bytL l)).sum : Int) ∧ a ≤ 2000 ∧ b ≤ 20000 ∧ ∀ j, j < i → Tree is l (x.f4.getD j z28) (x.f0 == 7 && x.f5.getD j false)))
    case atStart => exact ⟨0, _, _, rfl, by omega, kg4, kn4, hF4, .mk ⟨by simp, by have := hbt.out.2.1; simp; omega, hbt.out.1, hbt.out.2.2.1, fun j hj => absurd hj (Nat.not_lt_zero j)⟩⟩
    case round =>
      clear m4 kg4 kn4 hF4
      obtain ⟨i, a, b, rfl, hq, kg5, kn5, hF5, hin⟩ := hrel
      have hmx := Aside0.mk (Kd.C_max hN.out.h4)
      have hi0 : ((0 : Int) ≤ (i : Int)) = True := eq_true (by omega)
      by_cases hi : i < x.f4.length
      · have hi1 : ((i : Int) < (x.f4.length : Int)) = True := eq_true (by omega)
        have e6 : IntKind.i64.wrap ((i : Int) + 1) = (i : Int) + 1 := w64i _ (by omega) (by have := hmx.out; omega)
        obtain ⟨ad, q, hA, kc, hNq⟩ := hN.out.kid i hi
        dsimp only at hA
        subst hA
        have hB5 := bel_fr hb.out hF5.out (fun k hk => by omega)
        obtain ⟨y0, y1, y2, y3, y4, y5, y6, y7, y8, y9⟩ := kc.below hB5
        have hys : Sz l (x.f4.getD i z28) := hs2.out _ (getD_mem z28 hi)
        have hsc := sum_take (cntL l) z28 x.f4 i hi
        have hsb := sum_take (bytL l) z28 x.f4 i hi
        obtain ⟨y, hy⟩ : ∃ y, x.f4.getD i z28 = y := ⟨_, rfl⟩
        rw [hy] at y0 y1 y2 y3 y4 y5 y6 y7 y8 y9 hNq hys hsc hsb
        obtain ⟨B3, d3, B4, d4, B5, d5, B9, d9⟩ := q
        dsimp only at y0 y1 y2 y3 y4 y5 y6 y7 y8 y9
        have hlg := lt_of kg5.out
        have hg1 : wr.heap.size ≠ g := by omega
        replace hys := Aside0.mk hys; replace hsc := Aside0.mk hsc; replace hsb := Aside0.mk hsb; replace hNq := Aside0.mk hNq; replace hy := Aside0.mk hy
        clear kc hB5
        go_wp2_with fail
        have kg6 := Aside0.mk (heap_old kg5.out (.cells #[.int .i64 y.f0, .string y.f1, .int .i64 y.f2, .slice B3 y.f3.length d3, .slice B4 y.f4.length d4, .slice B5 y.f5.length d5, .string y.f6, .string y.f7, .string y.f8, .slice B9 y.f9.length d9] 28))
        have kn6 := Aside0.mk (heap_old kn5.out (.cells #[.int .i64 y.f0, .string y.f1, .int .i64 y.f2, .slice B3 y.f3.length d3, .slice B4 y.f4.length d4, .slice B5 y.f5.length d5, .string y.f6, .string y.f7, .string y.f8, .slice B9 y.f9.length d9] 28))
        have ka6 := Aside0.mk (heap_new wr (.cells #[.int .i64 y.f0, .string y.f1, .int .i64 y.f2, .slice B3 y.f3.length d3, .slice B4 y.f4.length d4, .slice B5 y.f5.length d5, .string y.f6, .string y.f7, .string y.f8, .slice B9 y.f9.length d9] 28))
        have hF6 := Aside0.mk (hF5.out.alloc (.cells #[.int .i64 y.f0, .string y.f1, .int .i64 y.f2, .slice B3 y.f3.length d3, .slice B4 y.f4.length d4, .slice B5 y.f5.length d5, .string y.f6, .string y.f7, .string y.f8, .slice B9 y.f9.length d9] 28))
        obtain ⟨na, hna⟩ : ∃ na, wr.heap.size = na := ⟨_, rfl⟩
        rw [hna] at ka6 hg1 ⊢
        generalize wr.alloc (.cells #[.int .i64 y.f0, .string y.f1, .int .i64 y.f2, .slice B3 y.f3.length d3, .slice B4 y.f4.length d4, .slice B5 y.f5.length d5, .string y.f6, .string y.f7, .string y.f8, .slice B9 y.f9.length d9] 28) = w6 at *
        clear kg5 kn5 hF5 y0 y1 y2 y3 y4 y5 y6 y7 y8 y9
        have m0 := cell_at kn6.out 0; have m5 := cell_at kn6.out 5
        simp at m0 m5
        have y0 := cell_at ka6.out 0; have y1 := cell_at ka6.out 1; have y2 := cell_at ka6.out 2; have y3 := cell_at ka6.out 3; have y4 := cell_at ka6.out 4; have y5 := cell_at ka6.out 5; have y6 := cell_at ka6.out 6; have y7 := cell_at ka6.out 7; have y8 := cell_at ka6.out 8; have y9 := cell_at ka6.out 9
        simp at y0 y1 y2 y3 y4 y5 y6 y7 y8 y9
        have hB6 := Aside0.mk (bel_fr hb.out hF6.out (fun k hk => by omega))
        have hcc : Aside0 ((0 ≤ a ∧ a ≤ 2000) ∧ (0 ≤ b ∧ b ≤ 20000)) := .mk (by have := hin.out.1; have := hin.out.2.1; have := hin.out.2.2.1; have := hin.out.2.2.2.1; have := hc0.out; have := hc1.out; omega)
        by_cases h7 : x.f0 = 7
        · replace h7 := Aside0.mk h7
          have hfl : i < x.f5.length := by
            have h7 := h7.out
            rcases hpp.out with h | h | h | h
            · obtain ⟨hk, _⟩ := h; unfold Scal at hk; omega
            · omega
            · omega
            · omega
          obtain ⟨af, hA5, hcf⟩ := hN.out.flat i hfl
          dsimp only at hA5
          subst hA5
          have hcf0 := hcf
          replace hcf := cell_below hB6.out hcf
          have hi5 : ((i : Int) < (x.f5.length : Int)) = True := eq_true (by omega)
          have hfv : Aside0 ((x.f0 == 7 && x.f5.getD i false) = x.f5.getD i false) := .mk (by rw [h7.out]; rfl)
          obtain ⟨fv, hfe⟩ : ∃ fv, x.f5.getD i false = fv := ⟨_, rfl⟩
          rw [hfe] at hcf hcf0
          replace hcf0 := Aside0.mk hcf0
          replace hfv : Aside0 ((x.f0 == 7 && x.f5.getD i false) = fv) := .mk (hfv.out.trans hfe)
          clear hfe hfl
          have m0' : w6.cell? ⟨nb, 0, none⟩ = some (.int .i64 7) := by rw [m0, h7.out]
          clear m0
          go_region_held3 (fun w' => w'.cell? ⟨na, 0, none⟩ = some (.int .i64 y.f0) ∧ w'.cell? ⟨na, 1, none⟩ = some (.string y.f1) ∧ w'.cell? ⟨na, 2, none⟩ = some (.int .i64 y.f2) ∧ w'.cell? ⟨na, 3, none⟩ = some (.slice B3 y.f3.length d3) ∧ w'.cell? ⟨na, 4, none⟩ = some (.slice B4 y.f4.length d4) ∧ w'.cell? ⟨na, 5, none⟩ = some (.slice B5 y.f5.length d5) ∧ w'.cell? ⟨na, 6, none⟩ = some (.string y.f6) ∧ w'.cell? ⟨na, 7, none⟩ = some (.string y.f7) ∧ w'.cell? ⟨na, 8, none⟩ = some (.string y.f8) ∧ w'.cell? ⟨na, 9, none⟩ = some (.slice B9 y.f9.length d9) ∧ w'.cell? ⟨nb, 0, none⟩ = some (.int .i64 7) ∧ w'.cell? ⟨nb, 5, none⟩ = some (.slice (some af) x.f5.length c5) ∧ w'.cell? (af.add i) = some (.bool fv)) (simp [*, World.cell?_setCell_far]) ((go_at_call 25; refine (ih.out y fv ⟨B3, d3, B4, d4, B5, d5, B9, d9⟩ w0 _ a b (Nat.le_of_succ_le hl.out) hNq.out (bel_fr hB6.out (Fr.of_below (S := fun _ => False) (drewB _)) (fun _ h => h.elim)) hg0 kg6.out hcc.out.1 hcc.out.2 hys.out).mono ?_; rintro e w7 ⟨rb, a7, b7, rfl, kg7, hF7, hr7⟩; replace hF7 := Aside0.mk (undrewF hF7); have ka7 := hF7.out.heap ka6.out hg1; have kn7 := hF7.out.heap kn6.out ng.out; have z0 := cell_at ka7 0; have z1 := cell_at ka7 1; have z2 := cell_at ka7 2; have z3 := cell_at ka7 3; have z4 := cell_at ka7 4; have z5 := cell_at ka7 5; have z6 := cell_at ka7 6; have z7 := cell_at ka7 7; have z8 := cell_at ka7 8; have z9 := cell_at ka7 9; simp at z0 z1 z2 z3 z4 z5 z6 z7 z8 z9; have u0 := cell_at kn7 0; have u5 := cell_at kn7 5; simp at u0 u5; rw [h7.out] at u0; replace kn7 := Aside0.mk kn7; replace ka7 := Aside0.mk ka7; replace kg7 := Aside0.mk kg7; replace hr7 := Aside0.mk hr7; have hcf7 := cell_below (bel_fr hb.out (hF6.out.trans hF7.out (fun _ _ h => h)) (fun k hk => by omega)) hcf0.out))
          all_goals
            have hF8 := Aside0.mk (hF6.out.trans hF7.out (fun _ _ h => h))
            cases rb
            · go_wp2
              (try go_ret)
              exact hQ.out _ _ _ _ kg7.out hF8.out (fun h => by cases h)
            · have hr8 := Aside0.mk (hr7.out rfl)
              go_wp2_with fail
              go_roundg (x.f4.length - (i + 1))
              case rel =>
                refine ⟨i + 1, a7, b7, by push_cast; rfl, by omega, kg7, kn7, hF8, .mk ?_⟩
                obtain ⟨h1, h2, h3, h4, h5⟩ := hin.out
                obtain ⟨t1, t2, t3, t4, t5⟩ := hr8.out
                have := hsc.out; have := hsb.out
                refine ⟨by omega, by omega, t4, t5, fun j hj => ?_⟩
                rcases Nat.lt_succ_iff_lt_or_eq.1 hj with hj | rfl
                · exact h5 j hj
                · rw [hy.out, hfv.out]; exact t1
              case measure => omega
        · have h7a : (x.f0 == 7) = false := by simp [h7]
          have h7b : decide (x.f0 = 7) = false := by simp [h7]
          have hfv : Aside0 ((x.f0 == 7 && x.f5.getD i false) = false) := .mk (by rw [h7a]; rfl)
          refine wp_region_noPanic ?_
          refine wp_region_held_drew (S := fun w' => w'.cell? ⟨na, 0, none⟩ = some (.int .i64 y.f0) ∧ w'.cell? ⟨na, 1, none⟩ = some (.string y.f1) ∧ w'.cell? ⟨na, 2, none⟩ = some (.int .i64 y.f2) ∧ w'.cell? ⟨na, 3, none⟩ = some (.slice B3 y.f3.length d3) ∧ w'.cell? ⟨na, 4, none⟩ = some (.slice B4 y.f4.length d4) ∧ w'.cell? ⟨na, 5, none⟩ = some (.slice B5 y.f5.length d5) ∧ w'.cell? ⟨na, 6, none⟩ = some (.string y.f6) ∧ w'.cell? ⟨na, 7, none⟩ = some (.string y.f7) ∧ w'.cell? ⟨na, 8, none⟩ = some (.string y.f8) ∧ w'.cell? ⟨na, 9, none⟩ = some (.slice B9 y.f9.length d9) ∧ w'.cell? ⟨nb, 0, none⟩ = some (.int .i64 x.f0)) (by kernel_rfl) (by simp [*]) (fun hHeld => ?_)
          refine tk 0 ?_
          refine tk 1 ?_
          refine tk 2 ?_
          refine tk 3 ?_
          refine tk 4 ?_
          refine tk 5 ?_
          refine tku 6 ?_
          refine tku 7 ?_
          refine tku 8 ?_
          refine tku 9 ?_
          refine tku 10 ?_
          refine tk 11 ?_
          refine tk 12 ?_
          refine tk 13 ?_
          refine tk 14 ?_
          refine rd1 15 (fun K hK => ?_)
          go_simp
          refine (ih.out y false ⟨B3, d3, B4, d4, B5, d5, B9, d9⟩ w0 _ a b (Nat.le_of_succ_le hl.out) hNq.out (bel_fr hB6.out (Fr.of_below (S := fun _ => False) (drewB _)) (fun _ h => h.elim)) hg0 kg6.out hcc.out.1 hcc.out.2 hys.out).mono ?_
          rintro e w7 ⟨rb, a7, b7, rfl, kg7, hF7, hr7⟩
          replace hF7 := Aside0.mk (undrewF hF7)
          have ka7 := hF7.out.heap ka6.out hg1
          have kn7 := hF7.out.heap kn6.out ng.out
          have z0 := cell_at ka7 0
          have z1 := cell_at ka7 1
          have z2 := cell_at ka7 2
          have z3 := cell_at ka7 3
          have z4 := cell_at ka7 4
          have z5 := cell_at ka7 5
          have z6 := cell_at ka7 6
          have z7 := cell_at ka7 7
          have z8 := cell_at ka7 8
          have z9 := cell_at ka7 9
          simp at z0 z1 z2 z3 z4 z5 z6 z7 z8 z9
          have u0 := cell_at kn7 0
          have u5 := cell_at kn7 5
          simp at u0 u5
          skip
          replace kn7 := Aside0.mk kn7
          replace ka7 := Aside0.mk ka7
          replace kg7 := Aside0.mk kg7
          replace hr7 := Aside0.mk hr7
          skip
          go_simp
          refine hK.out _ _ ⟨z0, z1, z2, z3, z4, z5, z6, z7, z8, z9, u0⟩ (fun hHeld => ?_)
          clear hK K
          try simp only [Act.put, List.setIfInBounds_toArray, List.set_cons_zero, List.set_cons_succ]
          refine tk 16 ?_
          refine wpAnyH_done (by kernel_rfl) ?_ _
          refine NoPanic.normal ?_
          clear hHeld
          all_goals
            have hF8 := Aside0.mk (hF6.out.trans hF7.out (fun _ _ h => h))
            cases rb
            · go_wp2
              (try go_ret)
              exact hQ.out _ _ _ _ kg7.out hF8.out (fun h => by cases h)
            · have hr8 := Aside0.mk (hr7.out rfl)
              go_wp2_with fail
              go_roundg (x.f4.length - (i + 1))
              case rel =>
                refine ⟨i + 1, a7, b7, by push_cast; rfl, by omega, kg7, kn7, hF8, .mk ?_⟩
                obtain ⟨h1, h2, h3, h4, h5⟩ := hin.out
                obtain ⟨t1, t2, t3, t4, t5⟩ := hr8.out
                have := hsc.out; have := hsb.out
                refine ⟨by omega, by omega, t4, t5, fun j hj => ?_⟩
                rcases Nat.lt_succ_iff_lt_or_eq.1 hj with hj | rfl
                · exact h5 j hj
                · rw [hy.out, hfv.out]; exact t1
              case measure => omega
      · have hi1 : ((i : Int) < (x.f4.length : Int)) = False := eq_false (by omega)
        obtain rfl : i = x.f4.length := by omega
        go_wp2
        (try go_ret)
        refine hQ.out _ _ _ _ kg5.out hF5.out (fun _ => ?_)
        obtain ⟨h1, h2, h3, h4, h5⟩ := hin.out
        rw [List.take_length] at h1 h2
        refine ⟨⟨hbt.out.2.2.2, hpp.out, hii.out, h5⟩, ?_, ?_, h3, h4⟩
        · rw [h1]; unfold cntL; push_cast; omega
        · rw [h2]; unfold bytL; push_cast; omega
end H
end Go.Proofs.YtkihaebaccdjdaaGreatDoor
