import Derived.Test.YtkihaebaccdjdaaGreatDoorJ33
import Derived.Test.YtkihaebaccdjdaaGreatDoorJ35
import Derived.Lib.BufferMore
set_option linter.unusedVariables false
set_option linter.unusedSimpArgs false
namespace Go.Proofs.YtkihaebaccdjdaaGreatDoor
open Go.RowKit Go.Proofs.YtkihaebaccdjdaaGreatDoorW.PrintWords Go.Proofs.YtkihaebaccdjdaaGreatDoorW.PrintLast Go.Proofs.YtkihaebaccdjdaaGreatDoorW.PrintMore
namespace H
/-! ### Base64EncodeBytes -/
set_option maxHeartbeats 4000000 in
set_option maxRecDepth 100000 in
theorem jb156 {B b g : Nat} {X : Nat → Prop} {xs zs : List Int} (s : ByteArray) (sv : Value) (w : World) (h : JB 150 B X b xs w) (hg : X g) (ha : BAt w g zs) (ht : zs.take s.size = bytesOf s) (hz : zs.length ≤ 9223372036854775807) (hs : s.size ≤ 2147483647) (hl : (xs ++ [34] ++ bytesOf (b64 s) ++ [34]).length ≤ 140737488355328) :
    Calls Tryz.prog 156 #[.pointer (some ⟨b, 0, none⟩), sv, .slice (some ⟨g, 0, none⟩) s.size zs.length] w fun e w' => e = .returned (.tuple #[]) ∧ Wrote 150 B X b (xs ++ [34] ++ bytesOf (b64 s) ++ [34]) w w' := by
  have hl1 : xs.length + 1 ≤ 140737488355328 := by simp at hl; omega
  have hl2 : (xs ++ [34]).length + (b64 s).size ≤ 140737488355328 := by simp [bytesOf_length] at hl ⊢; omega
  have hl3 : (xs ++ [34] ++ bytesOf (b64 s)).length + 1 ≤ 140737488355328 := by simp at hl ⊢; omega
  have hb64 := fun (w' : World) (hb : BAt w' g zs) => PX.smjson_b64.calls _ (fun k => k = g) (some ⟨g, 0, none⟩) zs.length (bytesOf s) (b64 s) w' (V_of_BAt hb ht hz) (b64_eqj s hs)
  rw [bytesOf_length] at hb64
  have heq := fun w => Lib.run_eql_slice_some_nil (P := Tryz.prog) w ⟨g, 0, none⟩ s.size zs.length Tryz.underlying22
  replace hb64 := Aside0.mk hb64; replace h := Aside0.mk h; replace ha := Aside0.mk ha
  clear ht hl
  go_enter Tryz.func156, Tryz.ntmps156
  go_wp2_with fail
  refine (jwr 34 ⟨#[34]⟩ cv34 w h.out (by show _ + 1 ≤ _; exact hl1)).mono ?_
  rintro e w1 ⟨n1, rfl, hw1⟩
  have ha1 : BAt w1 g zs := ha.out.fr hw1.2 (fun e => e.2 hg)
  replace hw1 := Aside0.mk hw1; replace ha1 := Aside0.mk ha1
  go_wp2_with fail
  refine (hb64.out w1 ha1.out).mono ?_
  rintro e w2 ⟨rfl, hb2⟩
  have hJ2 := Aside0.mk (hw1.out.1.calm hb2)
  have hF2 := Aside0.mk (hw1.out.2.trans (Fr.of_below (S := fun _ => False) hb2) (fun _ _ h => h.elim))
  clear hb2 hw1 ha1 hb64
  go_wp2_with fail
  refine (jws (b64 s) w2 hJ2.out hl2).mono ?_
  rintro e w3 ⟨rfl, hw3⟩
  have hF3 := Aside0.mk (hF2.out.trans hw3.2 (fun _ _ h => h))
  replace hw3 := Aside0.mk hw3
  clear hF2 hJ2
  go_wp2_with fail
  refine (jwr 34 ⟨#[34]⟩ cv34 w3 hw3.out.1 (by show _ + 1 ≤ _; exact hl3)).mono ?_
  rintro e w4 ⟨n4, rfl, hw4⟩
  go_wp2
  refine bodyPost_end (results_none rfl _ _ _) rfl ?_
  exact ⟨rfl, hw4.1, hF3.out.trans hw4.2 (fun _ _ h => h)⟩
set_option maxHeartbeats 4000000 in
set_option maxRecDepth 100000 in
theorem js94 {B b sc g : Nat} {X : Nat → Prop} {xs zs : List Int} (s : ByteArray) (w : World) (h : JS B X b sc xs w) (hg : X g) (ha : BAt w g zs) (ht : zs.take s.size = bytesOf s) (hz : zs.length ≤ 9223372036854775807) (hs : s.size ≤ 2147483647) (hl : (xs ++ [34] ++ bytesOf (b64 s) ++ [34]).length ≤ 140737488355328) :
    Calls Tryz.prog 94 #[.agg #[.pointer (some ⟨b, 0, none⟩), .pointer (some ⟨sc, 0, none⟩)], .slice (some ⟨g, 0, none⟩) s.size zs.length] w fun e w' => e = .returned (.tuple #[]) ∧ WrS B X b sc (xs ++ [34] ++ bytesOf (b64 s) ++ [34]) w w' := by
  have hb0 := below_alloc (Below.refl w.heap.size w) (.cells #[.pointer (some ⟨b, 0, none⟩), .pointer (some ⟨sc, 0, none⟩)] 88)
  have hn0 := heap_new w (.cells #[.pointer (some ⟨b, 0, none⟩), .pointer (some ⟨sc, 0, none⟩)] 88)
  have hJ0 : JS B (fun k => X k ∨ k = w.heap.size) b sc xs (w.alloc (.cells #[.pointer (some ⟨b, 0, none⟩), .pointer (some ⟨sc, 0, none⟩)] 88)) := h.also hb0 (Nat.le_refl _) (by simp)
  have ha0 := ha.below hb0
  obtain ⟨v, vs, h1, h2, h3, hJ⟩ := hJ0.out
  obtain ⟨A, c, rfl⟩ := own_slice h2
  have hc0 := cell_of h1
  have hcc : vs.length ≤ c := by
    rcases h2.2 with ⟨e1, e2⟩ | ⟨g, cap, cur, e1, _, _, e4, _⟩
    · injection e1 with _ e1 _; omega
    · injection e1 with _ _ e1; omega
  replace h := Aside0.mk h; replace hb0 := Aside0.mk hb0; replace hJ0 := Aside0.mk hJ0; replace h1 := Aside0.mk h1; replace h2 := Aside0.mk h2; replace h3 := Aside0.mk h3; replace hJ := Aside0.mk hJ; replace ha0 := Aside0.mk ha0; replace hl := Aside0.mk hl
  clear ha
  go_enter Tryz.func94, Tryz.ntmps94
  go_wp2_with fail
  obtain ⟨nb, hnb⟩ : ∃ nb, w.heap.size = nb := ⟨_, rfl⟩
  rw [hnb] at hn0 hJ0 h3 hJ ⊢
  have n0 := cell_at hn0 0; have n1 := cell_at hn0 1
  simp at n0 n1
  generalize w.alloc (.cells #[.pointer (some ⟨b, 0, none⟩), .pointer (some ⟨sc, 0, none⟩)] 88) = w1 at *
  replace hn0 := Aside0.mk hn0
  refine wp_region_noPanic ?_
  refine wp_region_held_drew (S := fun w' => w'.cell? ⟨nb, 0, none⟩ = some (.pointer (some ⟨b, 0, none⟩)) ∧ w'.cell? ⟨nb, 1, none⟩ = some (.pointer (some ⟨sc, 0, none⟩)) ∧ w'.cell? ⟨sc, 0, none⟩ = some (.slice A vs.length c)) (by kernel_rfl) ⟨n0, n1, hc0⟩ (fun hHeld => ?_)
  refine tk 0 ?_
  refine tk 1 ?_
  refine tk 2 ?_
  refine tk 3 ?_
  refine tk 4 ?_
  refine tk 5 ?_
  refine tk 6 (v := .slice A 0 c) ?_ (hy := fun w _ => ?_)
  rotate_left
  · go_simp
  refine tk 7 ?_
  refine rd1 8 (fun K hK => ?_)
  go_simp
  refine (jb156 (g := g) s (.slice A 0 c) w1.drew (hJ.out.calm (drewB _)) (.inl (.inl hg)) (ha0.out.below (drewB _)) ht hz hs hl.out).mono ?_
  rintro e w4 ⟨rfl, hw4⟩
  replace hw4 : Wrote 150 B (XS (fun k => X k ∨ k = nb) sc (.slice A vs.length c)) b (xs ++ [34] ++ bytesOf (b64 s) ++ [34]) w1 w4 := ⟨hw4.1, undrewF hw4.2⟩
  have hWS := Aside0.mk (WrS.from hb0.out (hJ0.out.wrote h1.out h2.out h3.out hw4) (fun k hk => .inl hk))
  have hn4 := hw4.2.heap hn0.out (fun e => e.2 (.inl (.inr rfl)))
  have hs4 := hw4.2.heap h1.out (fun e => e.2 (.inr (.inl rfl)))
  have hc4 := cell_of hs4
  have q0 := cell_at hn4 0; have q1 := cell_at hn4 1
  simp at q0 q1
  clear hw4
  go_simp
  refine hK.out _ _ ⟨q0, q1, hc4⟩ (fun hHeld => ?_)
  clear hK K
  try simp only [Act.put, List.setIfInBounds_toArray, List.set_cons_zero, List.set_cons_succ]
  refine wpAnyH_done (by kernel_rfl) ?_ _
  refine NoPanic.normal ?_
  clear hHeld
  go_wp2
  refine bodyPost_end (results_none rfl _ _ _) rfl ?_
  exact ⟨rfl, hWS.out⟩
set_option maxHeartbeats 4000000 in
set_option maxRecDepth 100000 in
theorem js88 {B b sc : Nat} {X : Nat → Prop} {xs : List Int} (i : Int) (hi0 : -9223372036854775808 ≤ i) (hi1 : i ≤ 9223372036854775807) (w : World) (h : JS B X b sc xs w) (htab : ∀ w1, Fr (fun k => B ≤ k) w w1 → Lib.TabIs Tryz.prog w1 "internal/strconv.uint64pow10" .u64 Lib.pow10Tab) (hl : xs.length + 25 ≤ 140737488355328) :
    Calls Tryz.prog 88 #[.agg #[.pointer (some ⟨b, 0, none⟩), .pointer (some ⟨sc, 0, none⟩)], .int .i8 i] w fun e w' => e = .returned (.tuple #[]) ∧ WrS B X b sc (xs ++ itoaB i) w w' := by
  have hb0 := below_alloc (Below.refl w.heap.size w) (.cells #[.pointer (some ⟨b, 0, none⟩), .pointer (some ⟨sc, 0, none⟩)] 88)
  have hB := h.leB
  have hc := js91 i hi0 hi1 (w.alloc (.cells #[.pointer (some ⟨b, 0, none⟩), .pointer (some ⟨sc, 0, none⟩)] 88)) (h.calm hb0) (fun w1 hF => htab w1 ((Fr.of_below (S := fun k => B ≤ k) hb0).trans hF (fun _ _ h => h))) hl
  have hi : IntKind.i64.wrap i = i := w64i _ hi0 (by omega)
  replace hc := Aside0.mk hc; replace hb0 := Aside0.mk hb0; replace h := Aside0.mk h
  clear htab
  go_enter Tryz.func88, Tryz.ntmps88
  go_wp2_with fail
  refine hc.out.mono ?_
  rintro e w2 ⟨rfl, hw⟩
  go_wp2
  refine bodyPost_end (results_none rfl _ _ _) rfl ?_
  exact ⟨rfl, WrS.from hb0.out hw (fun k hk => hk)⟩
set_option maxHeartbeats 4000000 in
set_option maxRecDepth 100000 in
theorem js89 {B b sc : Nat} {X : Nat → Prop} {xs : List Int} (i : Int) (hi0 : -9223372036854775808 ≤ i) (hi1 : i ≤ 9223372036854775807) (w : World) (h : JS B X b sc xs w) (htab : ∀ w1, Fr (fun k => B ≤ k) w w1 → Lib.TabIs Tryz.prog w1 "internal/strconv.uint64pow10" .u64 Lib.pow10Tab) (hl : xs.length + 25 ≤ 140737488355328) :
    Calls Tryz.prog 89 #[.agg #[.pointer (some ⟨b, 0, none⟩), .pointer (some ⟨sc, 0, none⟩)], .int .i16 i] w fun e w' => e = .returned (.tuple #[]) ∧ WrS B X b sc (xs ++ itoaB i) w w' := by
  have hb0 := below_alloc (Below.refl w.heap.size w) (.cells #[.pointer (some ⟨b, 0, none⟩), .pointer (some ⟨sc, 0, none⟩)] 88)
  have hB := h.leB
  have hc := js91 i hi0 hi1 (w.alloc (.cells #[.pointer (some ⟨b, 0, none⟩), .pointer (some ⟨sc, 0, none⟩)] 88)) (h.calm hb0) (fun w1 hF => htab w1 ((Fr.of_below (S := fun k => B ≤ k) hb0).trans hF (fun _ _ h => h))) hl
  have hi : IntKind.i64.wrap i = i := w64i _ hi0 (by omega)
  replace hc := Aside0.mk hc; replace hb0 := Aside0.mk hb0; replace h := Aside0.mk h
  clear htab
  go_enter Tryz.func89, Tryz.ntmps89
  go_wp2_with fail
  refine hc.out.mono ?_
  rintro e w2 ⟨rfl, hw⟩
  go_wp2
  refine bodyPost_end (results_none rfl _ _ _) rfl ?_
  exact ⟨rfl, WrS.from hb0.out hw (fun k hk => hk)⟩
set_option maxHeartbeats 4000000 in
set_option maxRecDepth 100000 in
theorem js90 {B b sc : Nat} {X : Nat → Prop} {xs : List Int} (i : Int) (hi0 : -9223372036854775808 ≤ i) (hi1 : i ≤ 9223372036854775807) (w : World) (h : JS B X b sc xs w) (htab : ∀ w1, Fr (fun k => B ≤ k) w w1 → Lib.TabIs Tryz.prog w1 "internal/strconv.uint64pow10" .u64 Lib.pow10Tab) (hl : xs.length + 25 ≤ 140737488355328) :
    Calls Tryz.prog 90 #[.agg #[.pointer (some ⟨b, 0, none⟩), .pointer (some ⟨sc, 0, none⟩)], .int .i32 i] w fun e w' => e = .returned (.tuple #[]) ∧ WrS B X b sc (xs ++ itoaB i) w w' := by
  have hb0 := below_alloc (Below.refl w.heap.size w) (.cells #[.pointer (some ⟨b, 0, none⟩), .pointer (some ⟨sc, 0, none⟩)] 88)
  have hB := h.leB
  have hc := js91 i hi0 hi1 (w.alloc (.cells #[.pointer (some ⟨b, 0, none⟩), .pointer (some ⟨sc, 0, none⟩)] 88)) (h.calm hb0) (fun w1 hF => htab w1 ((Fr.of_below (S := fun k => B ≤ k) hb0).trans hF (fun _ _ h => h))) hl
  have hi : IntKind.i64.wrap i = i := w64i _ hi0 (by omega)
  replace hc := Aside0.mk hc; replace hb0 := Aside0.mk hb0; replace h := Aside0.mk h
  clear htab
  go_enter Tryz.func90, Tryz.ntmps90
  go_wp2_with fail
  refine hc.out.mono ?_
  rintro e w2 ⟨rfl, hw⟩
  go_wp2
  refine bodyPost_end (results_none rfl _ _ _) rfl ?_
  exact ⟨rfl, WrS.from hb0.out hw (fun k hk => hk)⟩
end H
end Go.Proofs.YtkihaebaccdjdaaGreatDoor
