import Derived.Test.YtkihaebaccdjdaaGreatDoorJ38
import Derived.Test.YtkihaebaccdjdaaGreatDoorJ9
set_option linter.unusedVariables false
set_option linter.unusedSimpArgs false
namespace Go.Proofs.YtkihaebaccdjdaaGreatDoor
open Go.RowKit Go.Proofs.YtkihaebaccdjdaaGreatDoorW.PrintWords Go.Proofs.YtkihaebaccdjdaaGreatDoorW.PrintLast Go.Proofs.YtkihaebaccdjdaaGreatDoorW.PrintMore
open PX
namespace H
/-! ### impl.inJSON of a tree -/
def jvL (dec : List Int → Int × Nat) : Nat → S28 → List Int
  | 0, _ => []
  | l + 1, x =>
    if x.f0 = 1 then bytesOf (boolS (x.f2 != 0)) else if x.f0 = 2 then itoaB (IntKind.i8.wrap x.f2) else if x.f0 = 3 then itoaB (IntKind.i16.wrap x.f2) else if x.f0 = 4 then itoaB (wrap32 x.f2) else if x.f0 = 5 then itoaB x.f2
    else if x.f0 = 11 then bytesOf ⟨(Lib.decDigits (x.f2 % 18446744073709551616).toNat).toArray⟩ else if x.f0 = 10 then bytesOf ⟨#[110, 117, 108, 108]⟩ else if x.f0 = 6 then [34] ++ bytesOf (b64 x.f1) ++ [34]
    else if x.f0 = 7 ∨ x.f0 = 9 then [123] ++ jm dec (jvL dec l) x.f3 x.f4 x.f3.length ++ [125] else if x.f0 = 8 then [91] ++ je (jvL dec l) x.f4 x.f4.length ++ [93] else [34] ++ esc dec x.f1.size (bytesOf x.f1) ++ [34]
/-- A node that may stand in JSON. -/
def isJ (x : S28) (flat : Bool) : Prop := flat = false ∧ (∀ s ∈ x.f3, runes (fun _ => true) (s.size + 1) (bytesOf s) = true) ∧ (x.f0 = 0 → runes (fun _ => true) (x.f1.size + 1) (bytesOf x.f1) = true) ∧ bytN x ≤ 20000 ∧ Sz 1 x
theorem mem_sum {α : Type} (f : α → Nat) : ∀ {l : List α} {x : α}, x ∈ l → f x ≤ (l.map f).sum
  | a :: l, x, h => by
    simp only [List.map_cons, List.sum_cons]
    rcases List.mem_cons.1 h with rfl | h
    · omega
    · have := mem_sum f h; omega
theorem mem_getD {α : Type} {l : List α} {y : α} (d : α) (h : y ∈ l) : ∃ i, i < l.length ∧ l.getD i d = y := by
  obtain ⟨i, hi, rfl⟩ := List.mem_iff_getElem.1 h
  exact ⟨i, hi, by rw [List.getD_eq_getElem?_getD, List.getElem?_eq_getElem hi]; rfl⟩
theorem inJ_all {dec : List Int → Int × Nat} {D : World → Prop} {B b sc : Nat} (HD : DD dec D B) (hTD : ∀ w, D w → Lib.TabIs Tryz.prog w "internal/strconv.uint64pow10" .u64 Lib.pow10Tab) (w0 : World) (hB0 : w0.heap.size ≤ B) :
    ∀ (l : Nat) (x : S28) (flat : Bool), Tree isJ l x flat → InJ D B b sc w0 x (jvL dec l x) := by
  intro l
  induction l with
  | zero => intro x flat h; exact h.elim
  | succ l IH =>
    intro x flat h
    obtain ⟨hln, hpart, his, hk⟩ := h
    obtain ⟨_, _, _, hbyt, hsz, _⟩ := his
    obtain ⟨k, t, num, names, kids, fl, it, kn, vn, at'⟩ := x
    dsimp only at hln hpart hk
    obtain ⟨_, _, _, _, hnum, _, _⟩ := hsz
    dsimp only at hnum
    have ht : t.size ≤ 20000 := by unfold bytN at hbyt; dsimp only at hbyt; omega
    have hnm : ∀ s ∈ names, s.size ≤ 20000 := fun s hs => by
      have := mem_sum ByteArray.size hs
      unfold bytN at hbyt
      dsimp only at hbyt
      omega
    have ih : ∀ y ∈ kids, InJ D B b sc w0 y (jvL dec l y) := fun y hy => by
      obtain ⟨i, hi, rfl⟩ := mem_getD z28 hy
      exact IH _ _ (hk i hi)
    rcases hpart with ⟨hs, _⟩ | ⟨h8, _⟩ | ⟨h9, h1, _⟩ | ⟨h7, h1, _⟩
    · have hc : k = 0 ∨ k = 1 ∨ k = 2 ∨ k = 3 ∨ k = 4 ∨ k = 5 ∨ k = 6 ∨ k = 10 ∨ k = 11 := by unfold Scal at hs; dsimp only at hs; omega
      intro p X xs w hN hb h hD hl
      rcases hc with rfl | rfl | rfl | rfl | rfl | rfl | rfl | rfl | rfl
      · exact inj0 HD hTD t it kn vn num hnum.1 hnum.2 ht p.a3 p.a4 p.a5 p.a9 names.length p.c3 kids.length p.c4 fl.length p.c5 at'.length p.c9 w h hD hl
      · exact inj1 HD hTD t it kn vn num hnum.1 hnum.2 ht p.a3 p.a4 p.a5 p.a9 names.length p.c3 kids.length p.c4 fl.length p.c5 at'.length p.c9 w h hD hl
      · exact inj2 HD hTD t it kn vn num hnum.1 hnum.2 ht p.a3 p.a4 p.a5 p.a9 names.length p.c3 kids.length p.c4 fl.length p.c5 at'.length p.c9 w h hD hl
      · exact inj3 HD hTD t it kn vn num hnum.1 hnum.2 ht p.a3 p.a4 p.a5 p.a9 names.length p.c3 kids.length p.c4 fl.length p.c5 at'.length p.c9 w h hD hl
      · exact inj4 HD hTD t it kn vn num hnum.1 hnum.2 ht p.a3 p.a4 p.a5 p.a9 names.length p.c3 kids.length p.c4 fl.length p.c5 at'.length p.c9 w h hD hl
      · exact inj5 HD hTD t it kn vn num hnum.1 hnum.2 ht p.a3 p.a4 p.a5 p.a9 names.length p.c3 kids.length p.c4 fl.length p.c5 at'.length p.c9 w h hD hl
      · exact inj6 HD t it kn vn num ht p.a3 p.a4 p.a5 p.a9 names.length p.c3 kids.length p.c4 fl.length p.c5 at'.length p.c9 w h hD hl
      · exact inj10 HD hTD t it kn vn num hnum.1 hnum.2 ht p.a3 p.a4 p.a5 p.a9 names.length p.c3 kids.length p.c4 fl.length p.c5 at'.length p.c9 w h hD hl
      · have hu : IntKind.u64.wrap num = ((num % 18446744073709551616).toNat : Int) := by rw [u64w]; omega
        have hu64 : (num % 18446744073709551616).toNat < 18446744073709551616 := by omega
        have e : jvL dec (l + 1) ⟨11, t, num, names, kids, fl, it, kn, vn, at'⟩ = bytesOf ⟨(Lib.decDigits (num % 18446744073709551616).toNat).toArray⟩ := by
          unfold jvL
          rw [if_neg (show ¬ (11 : Int) = 1 by decide), if_neg (show ¬ (11 : Int) = 2 by decide), if_neg (show ¬ (11 : Int) = 3 by decide), if_neg (show ¬ (11 : Int) = 4 by decide), if_neg (show ¬ (11 : Int) = 5 by decide), if_pos rfl]
        rw [e] at hl ⊢
        generalize (num % 18446744073709551616).toNat = u at *
        exact inj11 HD hTD t it kn vn num hnum.1 hnum.2 ht u hu hu64 p.a3 p.a4 p.a5 p.a9 names.length p.c3 kids.length p.c4 fl.length p.c5 at'.length p.c9 w h hD hl
    · subst h8
      exact inj8 HD w0 hB0 t it kn vn num names kids fl at' ih
    · subst h9
      exact inj9 HD w0 hB0 t it kn vn num names kids fl at' h1 hnm ih
    · subst h7
      exact inj7 HD w0 hB0 t it kn vn num names kids fl at' h1 hnm ih
/-! ### NewEncoder with its scratch -/
set_option maxHeartbeats 1000000 in
set_option maxRecDepth 100000 in
theorem js38 (w : World) : Calls Tryz.prog 38 #[] w fun e w' => ∃ b sc eb, e = .returned (.pointer (some ⟨eb, 0, none⟩)) ∧ JS w.heap.size (fun k => k = eb) b sc [] w' ∧ w.heap.size ≤ eb ∧
    w'.heap[eb]? = some (.cells #[.pointer (some ⟨b, 0, none⟩), .pointer (some ⟨b, 0, none⟩), .pointer (some ⟨sc, 0, none⟩)] 90 (0, 0)) ∧ Below w.heap.size w w' := by
  obtain ⟨i5, hi5, hz5⟩ := Option.map_eq_some_iff.1 inf5
  simp only [Prod.mk.injEq] at hz5
  obtain ⟨hz0, hz1, hz2⟩ := hz5
  have hmk : ∀ w : World, (Instr.makeSlice 22 (.int .i64 64) (.int .i64 64)).run Tryz.prog w = .ok (.slice (some ⟨w.heap.size, 0, none⟩) 64 64) (w.alloc (.cells (madeCells #[.int .u8 0] 64) 5)) := fun w => by
    have h := run_makeSlice (P := Tryz.prog) (w := w) 22 5 i5 (.int .u8 0) Tryz.underlying22 hi5 hz0 .i64 .i64 64 64 (by omega) (by omega) (by rw [hz1]; decide) (by rw [hz2]; decide) (by omega)
    rw [hz1] at h
    exact h
  go_enter Tryz.func38, Tryz.ntmps38
  go_wp2_with fail
  have hJ := JB.made 150 (by decide) w (fun _ => False) (fun _ h => h.elim)
  have hb0 := below_alloc (Below.refl w.heap.size w) (.cells #[.slice none 0 0] 150)
  have hb1 := below_alloc (below_alloc (Below.refl (w.alloc (.cells #[.slice none 0 0] 150)).heap.size (w.alloc (.cells #[.slice none 0 0] 150))) (.cells (madeCells #[.int .u8 0] 64) 5)) (.cells #[.slice (some ⟨w.heap.size + 1, 0, none⟩) 64 64] 22)
  have hz1' : (w.alloc (.cells #[.slice none 0 0] 150)).heap.size = w.heap.size + 1 := by simp
  have hz2' : ((w.alloc (.cells #[.slice none 0 0] 150)).alloc (.cells (madeCells #[.int .u8 0] 64) 5)).heap.size = w.heap.size + 1 + 1 := by simp
  have hz3' : (((w.alloc (.cells #[.slice none 0 0] 150)).alloc (.cells (madeCells #[.int .u8 0] 64) 5)).alloc (.cells #[.slice (some ⟨w.heap.size + 1, 0, none⟩) 64 64] 22)).heap.size = w.heap.size + 1 + 1 + 1 := by simp
  have hr0 := heap_old (heap_new (w.alloc (.cells #[.slice none 0 0] 150)) (.cells (madeCells #[.int .u8 0] 64) 5)) (.cells #[.slice (some ⟨w.heap.size + 1, 0, none⟩) 64 64] 22)
  have hs0 := heap_new ((w.alloc (.cells #[.slice none 0 0] 150)).alloc (.cells (madeCells #[.int .u8 0] 64) 5)) (.cells #[.slice (some ⟨w.heap.size + 1, 0, none⟩) 64 64] 22)
  rw [hz1'] at hr0
  rw [hz2'] at hs0
  have hJ1 := hJ.re (X' := XS (fun _ => False) (w.heap.size + 1 + 1) (.slice (some ⟨w.heap.size + 1, 0, none⟩) 64 64)) (fun k hk => by
    rcases hk with hk | hk | hk
    · exact hk.elim
    · exact .inr (by omega)
    · exact .inr (by injection hk with hk; dsimp only at hk; omega)) (fun k hk => by
    rw [hz3']
    rcases hk with hk | hk | hk
    · exact hk.elim
    · omega
    · injection hk with hk; dsimp only at hk; omega) hb1
  have hB1 := below_then hb0 hb0.size hb1
  generalize ((w.alloc (.cells #[.slice none 0 0] 150)).alloc (.cells (madeCells #[.int .u8 0] 64) 5)).alloc (.cells #[.slice (some ⟨w.heap.size + 1, 0, none⟩) 64 64] 22) = w1 at *
  have hown : w1.ownsRow w.heap.size 5 1 (.slice (some ⟨w.heap.size + 1, 0, none⟩) 64 64) (List.replicate 64 (0 : Int)).length (nums .u8 (List.replicate 64 0)) :=
    ⟨by simp [nums], .inr ⟨w.heap.size + 1, 64, _, rfl, by omega, hr0, Nat.le_refl _, by unfold maxLen; omega, by first | rfl | kernel_rfl | (simp [madeCells]; done), by first | rfl | kernel_rfl | (simp [madeCells, nums]; done)⟩⟩
  have hJS : JS w.heap.size (fun _ => False) w.heap.size (w.heap.size + 1 + 1) [] w1 := ⟨⟨_, _, hs0, hown, fun _ _ h => h, hJ1⟩, by omega, fun h => h⟩
  clear hJ hb0 hb1 hr0 hs0 hJ1 hown hz1' hz2'
  refine (jnewV w.heap.size (w.heap.size + 1 + 1) w1).mono ?_
  rintro e w2 ⟨rfl, hb2⟩
  have hJ2 := hJS.calm hb2
  have hB2 := below_then hB1 hB1.size hb2
  go_wp2
  go_ret
  have hs := hB2.size
  have hb3 := below_alloc (Below.refl w2.heap.size w2) (.cells #[.pointer (some ⟨w.heap.size, 0, none⟩), .pointer (some ⟨w.heap.size, 0, none⟩), .pointer (some ⟨w.heap.size + 1 + 1, 0, none⟩)] 90)
  refine ⟨w.heap.size, w.heap.size + 1 + 1, w2.heap.size, rfl, ?_, hs, heap_new _ _, below_then hB2 hB2.size hb3⟩
  exact hJ2.re (fun k hk => .inr (by omega)) (fun k hk => by simp; omega) hb3
/-! ### EncodeJSON -/
set_option maxHeartbeats 4000000 in
set_option maxRecDepth 100000 in
theorem ejTree {D : World → Prop} {out : List Int} (x : S28) (p : NA) (w : World) (hN : NH w x p) (hD : D w) (hl : out.length + 30 ≤ 140737488355328)
    (hk : ∀ (X : Nat → Prop) (w1 w' : World), D w1 → Fr (fun k => w.heap.size ≤ k ∧ ¬ X k) w1 w' → D w')
    (hin : ∀ (b sc : Nat), InJ D (w.heap.size + 1) b sc w x out) :
    Calls Tryz.prog 16 #[NV x p] w fun e w' => e = .returned (.string (strOfNums out)) ∧ Fr (fun k => w.heap.size ≤ k) w w' := by
  replace hD := Aside0.mk hD; replace hk := Aside0.mk hk; replace hin := Aside0.mk hin; replace hN := Aside0.mk hN
  obtain ⟨kd, s0, num0, names, kids, fl, i0, k0, v0, at'⟩ := x
  obtain ⟨d1, u1, d2, u2, d3, u3, d4, u4⟩ := p
  have hin2 := fun b sc X w1 h1 h2 h3 h4 => hin.out b sc ⟨d1, u1, d2, u2, d3, u3, d4, u4⟩ X [] w1 hN.out h1 h2 h3 h4
  unfold NV at hin2 ⊢
  dsimp only at hin2 ⊢
  obtain ⟨r1, hr1⟩ : ∃ r1, names.length = r1 := ⟨_, rfl⟩
  obtain ⟨r2, hr2⟩ : ∃ r2, kids.length = r2 := ⟨_, rfl⟩
  obtain ⟨r3, hr3⟩ : ∃ r3, fl.length = r3 := ⟨_, rfl⟩
  obtain ⟨r4, hr4⟩ : ∃ r4, at'.length = r4 := ⟨_, rfl⟩
  rw [hr1, hr2, hr3, hr4] at hin2 ⊢
  replace hin2 := Aside0.mk hin2
  clear hr1 hr2 hr3 hr4 hN hin
  go_enter Tryz.func16, Tryz.ntmps16
  go_wp2_with fail
  have hb := below_alloc (Below.refl w.heap.size w) (.cells #[.int .i64 kd, .string s0, .int .i64 num0, .slice d1 r1 u1, .slice d2 r2 u2, .slice d3 r3 u3, .string i0, .string k0, .string v0, .slice d4 r4 u4] 28)
  have hsz : (w.alloc (.cells #[.int .i64 kd, .string s0, .int .i64 num0, .slice d1 r1 u1, .slice d2 r2 u2, .slice d3 r3 u3, .string i0, .string k0, .string v0, .slice d4 r4 u4] 28)).heap.size = w.heap.size + 1 := by simp
  have hE := js38 (w.alloc (.cells #[.int .i64 kd, .string s0, .int .i64 num0, .slice d1 r1 u1, .slice d2 r2 u2, .slice d3 r3 u3, .string i0, .string k0, .string v0, .slice d4 r4 u4] 28))
  rw [hsz] at hE
  have hnd := heap_new w (.cells #[.int .i64 kd, .string s0, .int .i64 num0, .slice d1 r1 u1, .slice d2 r2 u2, .slice d3 r3 u3, .string i0, .string k0, .string v0, .slice d4 r4 u4] 28)
  generalize w.alloc (.cells #[.int .i64 kd, .string s0, .int .i64 num0, .slice d1 r1 u1, .slice d2 r2 u2, .slice d3 r3 u3, .string i0, .string k0, .string v0, .slice d4 r4 u4] 28) = w1 at *
  refine hE.mono ?_
  rintro e w2 ⟨b, sc, eb, rfl, hJ, heb, hE2, hb2⟩
  obtain ⟨nb, hnb⟩ : ∃ nb, w.heap.size = nb := ⟨_, rfl⟩
  rw [← hsz] at hb2
  have hF2 := Aside0.mk ((Fr.of_below (S := fun k => w.heap.size ≤ k) hb).trans (Fr.of_below (S := fun _ => False) hb2) (fun _ _ h => h.elim))
  have hB2 := Aside0.mk (below_then hb hb.size hb2)
  have hD2 := Aside0.mk (hk.out (fun k => k < w.heap.size) _ _ hD.out (hF2.out.mono (fun k _ h => ⟨h, by omega⟩)))
  have c0 := cell_at hE2 0; have c1 := cell_at hE2 1; have c2 := cell_at hE2 2
  simp at c0 c1 c2
  replace hJ := Aside0.mk hJ; replace hE2 := Aside0.mk hE2; replace hb := Aside0.mk hb
  have hn2 := heap_below hb2 hnd
  rw [hnb] at hn2 heb ⊢
  have q0 := cell_at hn2 0; have q1 := cell_at hn2 1; have q2 := cell_at hn2 2; have q3 := cell_at hn2 3; have q4 := cell_at hn2 4; have q5 := cell_at hn2 5; have q6 := cell_at hn2 6; have q7 := cell_at hn2 7; have q8 := cell_at hn2 8; have q9 := cell_at hn2 9
  simp at q0 q1 q2 q3 q4 q5 q6 q7 q8 q9
  replace hn2 := Aside0.mk hn2; replace hb2 := Aside0.mk hb2
  clear hE hnd
  go_wp2_with fail
  go_region_held3 (fun w' => w'.cell? ⟨eb, 1, none⟩ = some (.pointer (some ⟨b, 0, none⟩)) ∧ w'.cell? ⟨eb, 2, none⟩ = some (.pointer (some ⟨sc, 0, none⟩)) ∧ w'.cell? ⟨nb, 0, none⟩ = some (.int .i64 kd) ∧ w'.cell? ⟨nb, 1, none⟩ = some (.string s0) ∧ w'.cell? ⟨nb, 2, none⟩ = some (.int .i64 num0) ∧ w'.cell? ⟨nb, 3, none⟩ = some (.slice d1 r1 u1) ∧ w'.cell? ⟨nb, 4, none⟩ = some (.slice d2 r2 u2) ∧ w'.cell? ⟨nb, 5, none⟩ = some (.slice d3 r3 u3) ∧ w'.cell? ⟨nb, 6, none⟩ = some (.string i0) ∧ w'.cell? ⟨nb, 7, none⟩ = some (.string k0) ∧ w'.cell? ⟨nb, 8, none⟩ = some (.string v0) ∧ w'.cell? ⟨nb, 9, none⟩ = some (.slice d4 r4 u4)) (simp [*, World.cell?_setCell_far]) (first | ((go_at_call 39; refine (hin2.out b sc (fun k => k = eb) _ (below_then hB2.out hB2.out.size (drewB _)) (hJ.out.calm (drewB _)) (hk.out (fun _ => False) _ _ hD2.out (Fr.of_below (drewB _))) (by simpa using hl)).mono ?_; rintro e w4 ⟨rfl, hw4, hD4⟩; have hF4 := undrewF hw4.2; have hE4 := hF4.heap hE2.out (fun e => e.2 rfl); have hn4 := hF4.heap hn2.out (fun e => absurd e.1 (by omega)); have c1 := cell_at hE4 1; have c0 := cell_at hE4 0; have c2 := cell_at hE4 2; simp at c0 c1 c2; have q0 := cell_at hn4 0; have q1 := cell_at hn4 1; have q2 := cell_at hn4 2; have q3 := cell_at hn4 3; have q4 := cell_at hn4 4; have q5 := cell_at hn4 5; have q6 := cell_at hn4 6; have q7 := cell_at hn4 7; have q8 := cell_at hn4 8; have q9 := cell_at hn4 9; simp at q0 q1 q2 q3 q4 q5 q6 q7 q8 q9; have hJ4 := hw4.1; clear hw4; replace hJ4 := Aside0.mk hJ4; replace hF4 := Aside0.mk hF4; replace hE4 := Aside0.mk hE4; replace hn4 := Aside0.mk hn4)))
  all_goals go_wp2_with fail
  obtain ⟨v, zs, _, _, _, hJb⟩ := hJ4.out.out
  rw [List.nil_append] at hJb
  refine (jtold w4 hJb).mono ?_
  rintro e w5 ⟨rfl, hb5⟩
  have hF5 := Aside0.mk (((hF2.out.trans hF4.out (fun k hk h => by have := h.1; omega)).trans (Fr.of_below (S := fun _ => False) hb5) (fun _ _ h => h.elim)))
  clear hb5
  go_wp2
  (try simp only [Exit.inBlock, Exit.then])
  refine bodyPost_ret (v := .string (strOfNums out)) ?_ rfl ⟨rfl, hF5.out.mono (fun k hk h => by omega)⟩
  simp only [results]; go_simp
end H
end Go.Proofs.YtkihaebaccdjdaaGreatDoor
