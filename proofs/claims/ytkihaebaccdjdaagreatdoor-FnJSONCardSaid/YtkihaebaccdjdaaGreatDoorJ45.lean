import Derived.Test.YtkihaebaccdjdaaGreatDoorJ44
import Derived.Test.YtkihaebaccdjdaaGreatDoorJ39
import Derived.Test.YtkihaebaccdjdaaGreatDoorJ43
import Derived.Test.YtkihaebaccdjdaaGreatDoorJ4
set_option linter.unusedVariables false
set_option linter.unusedSimpArgs false
namespace Go.Proofs.YtkihaebaccdjdaaGreatDoor
open Go.RowKit Go.Proofs.YtkihaebaccdjdaaGreatDoorW.PrintWords Go.Proofs.YtkihaebaccdjdaaGreatDoorW.PrintLast Go.Proofs.YtkihaebaccdjdaaGreatDoorW.PrintMore
open PX
namespace H
/-! ### A tree in JSON -/
theorem U8.small {l : List Int} (h : ∀ x ∈ l, 0 ≤ x ∧ x < 128) : U8 (fun _ => true) l := U8.ascii (fun x hx => ⟨(h x hx).1, (h x hx).2, rfl⟩)
theorem digsB (u : Nat) : bytesOf ⟨(Lib.decDigits u).toArray⟩ = digs u := by simp [bytesOf, digs]
theorem digs_len20 (u : Nat) (h : u < 18446744073709551616) : (digs u).length ≤ 20 := by rw [← digsB]; have := digs_len u; have := digs_le u h; omega
theorem digs_U8 (u : Nat) (h : u < 18446744073709551616) : ∀ x ∈ digs u, 0 ≤ x ∧ x < 128 := fun x hx => by have := (digs_rng 20 u (by omega) (by omega)).1 x hx; omega
theorem itoaB_U8 (i : Int) (h0 : -9223372036854775808 ≤ i) (h1 : i ≤ 9223372036854775807) : ∀ x ∈ itoaB i, 0 ≤ x ∧ x < 128 := by
  by_cases hneg : i < 0
  · obtain ⟨u, rfl⟩ : ∃ u : Nat, i = -(u : Int) := ⟨i.natAbs, by omega⟩
    rw [itoaB_neg u (by omega), digsB]
    intro x hx
    rcases List.mem_cons.1 hx with rfl | hx
    · omega
    · exact digs_U8 u (by omega) x hx
  · obtain ⟨u, rfl⟩ : ∃ u : Nat, i = u := ⟨i.toNat, by omega⟩
    rw [itoaB_nn u, digsB]
    exact digs_U8 u (by omega)
/-- What holds of what is written for a node of JSON. -/
structure JGood (w0 : World) (x : S28) (ys : List Int) (n : Nat) : Prop where
  v : InV w0 x ys
  u : U8 (fun _ => true) ys
  len : ys.length + 4 ≤ n
theorem jm_good {f : S28 → List Int} {names : List ByteArray} {kids : List S28} {N : S28 → Nat} (hlen : names.length = kids.length) (hU : ∀ s ∈ names, U8 (fun _ => true) (bytesOf s)) (hf : ∀ y ∈ kids, U8 (fun _ => true) (f y) ∧ (f y).length + 4 ≤ N y) :
    ∀ i, i ≤ kids.length → U8 (fun _ => true) (jm decL f names kids i) ∧ (jm decL f names kids i).length ≤ 6 * ((names.take i).map ByteArray.size).sum + ((kids.take i).map N).sum := by
  intro i
  induction i with
  | zero => intro _; exact ⟨U8.nil _, by simp [jm]⟩
  | succ i ih =>
    intro hi
    obtain ⟨h1, h2⟩ := ih (by omega)
    have hn := getD_mem ByteArray.empty (show i < names.length by omega)
    have hk := getD_mem z28 (show i < kids.length by omega)
    have e1 := sum_take ByteArray.size ByteArray.empty names i (by omega)
    have e2 := sum_take N z28 kids i (by omega)
    have hg := (esc_good (hU _ hn) (names.getD i ByteArray.empty).size (by rw [bytesOf_length]; omega)).1
    have hel := esc_len (names.getD i ByteArray.empty).size (bytesOf (names.getD i ByteArray.empty))
    rw [bytesOf_length] at hel
    have hkl := (hf _ hk).2
    rw [jm]
    refine ⟨h1.app (((U8.small ?_).app ((((U8.small (l := [34]) (by decide)).app hg).app (U8.small (l := [34]) (by decide))).app (U8.small (l := [58]) (by decide)))).app (hf _ hk).1), ?_⟩
    · split <;> decide
    · have : (if i = 0 then ([] : List Int) else [44]).length ≤ 1 := by split <;> simp
      simp only [List.length_append, List.length_cons, List.length_nil]
      omega
theorem je_good {f : S28 → List Int} {kids : List S28} {N : S28 → Nat} (hf : ∀ y ∈ kids, U8 (fun _ => true) (f y) ∧ (f y).length + 4 ≤ N y) :
    ∀ i, i ≤ kids.length → U8 (fun _ => true) (je f kids i) ∧ (je f kids i).length ≤ ((kids.take i).map N).sum := by
  intro i
  induction i with
  | zero => intro _; exact ⟨U8.nil _, by simp [je]⟩
  | succ i ih =>
    intro hi
    obtain ⟨h1, h2⟩ := ih (by omega)
    have hk := getD_mem z28 (show i < kids.length by omega)
    have e2 := sum_take N z28 kids i (by omega)
    have hkl := (hf _ hk).2
    rw [je]
    refine ⟨h1.app ((U8.small ?_).app (hf _ hk).1), ?_⟩
    · split <;> decide
    · have : (if i = 0 then ([] : List Int) else [44]).length ≤ 1 := by split <;> simp
      simp only [List.length_append]
      omega
theorem sum_lin (f g : S28 → Nat) : ∀ l : List S28, (l.map fun y => 6 * f y + 48 * g y).sum = 6 * (l.map f).sum + 48 * (l.map g).sum
  | [] => rfl
  | a :: l => by simp only [List.map_cons, List.sum_cons, sum_lin f g l]; omega
theorem cnt_pos : ∀ (l : List S28) (g : S28 → Nat), (∀ y ∈ l, 1 ≤ g y) → l.length ≤ (l.map g).sum
  | [], _, _ => by simp
  | a :: l, g, h => by
    have h1 := cnt_pos l g (fun y hy => h y (List.mem_cons_of_mem _ hy))
    have h2 := h a List.mem_cons_self
    simp only [List.map_cons, List.sum_cons, List.length_cons]
    omega
theorem tree_cnt {is : S28 → Bool → Prop} : ∀ (l : Nat) (x : S28) (flat : Bool), Tree is l x flat → 1 ≤ cntL l x
  | 0, _, _, h => h.elim
  | l + 1, x, _, _ => by unfold cntL; omega
theorem jgood (w0 : World) : ∀ (l : Nat) (x : S28) (flat : Bool), Tree isJ l x flat → JGood w0 x (jvL decL l x) (6 * bytL l x + 48 * cntL l x) := by
  intro l
  induction l with
  | zero => intro x flat h; exact h.elim
  | succ l IH =>
    intro x flat h
    obtain ⟨hln, hpart, his, hk⟩ := h
    obtain ⟨_, hU, hU0, hbyt, hsz, _⟩ := his
    obtain ⟨k, t, num, names, kids, fl, it, kn, vn, at'⟩ := x
    dsimp only at hln hpart hk hU hU0
    obtain ⟨_, _, _, _, hnum, _, _⟩ := hsz
    dsimp only at hnum
    have ht : t.size ≤ 20000 := by unfold bytN at hbyt; dsimp only at hbyt; omega
    have hnm : ∀ s ∈ names, s.size ≤ 20000 := fun s hs => by
      have := mem_sum ByteArray.size hs
      unfold bytN at hbyt
      dsimp only at hbyt
      omega
    have hU' : ∀ s ∈ names, U8 (fun _ => true) (bytesOf s) := fun s hs => U8.of_runes _ _ (bytes_rng s) (hU s hs)
    have ih : ∀ y ∈ kids, JGood w0 y (jvL decL l y) (6 * bytL l y + 48 * cntL l y) ∧ 1 ≤ cntL l y := fun y hy => by
      obtain ⟨i, hi, rfl⟩ := mem_getD z28 hy
      have := IH _ _ (hk i hi)
      exact ⟨⟨this.v, this.u, by have := this.len; omega⟩, tree_cnt l _ _ (hk i hi)⟩
    have hby : t.size + (names.map ByteArray.size).sum + (kids.map (bytL l)).sum ≤ bytL (l + 1) ⟨k, t, num, names, kids, fl, it, kn, vn, at'⟩ := by
      unfold bytL bytN; dsimp only; omega
    have hcn : cntL (l + 1) ⟨k, t, num, names, kids, fl, it, kn, vn, at'⟩ = 1 + (kids.map (cntL l)).sum := rfl
    have hkl := cnt_pos kids (cntL l) (fun y hy => (ih y hy).2)
    have hsl := sum_lin (bytL l) (cntL l) kids
    rcases hpart with ⟨hs, _⟩ | ⟨h8, _⟩ | ⟨h9, h1, _⟩ | ⟨h7, h1, _⟩
    · have hc : k = 0 ∨ k = 1 ∨ k = 2 ∨ k = 3 ∨ k = 4 ∨ k = 5 ∨ k = 6 ∨ k = 10 ∨ k = 11 := by unfold Scal at hs; dsimp only at hs; omega
      have ht2 : t.size ≤ 2147483647 := by omega
      rcases hc with rfl | rfl | rfl | rfl | rfl | rfl | rfl | rfl | rfl
      · have hu := U8.of_runes _ _ (bytes_rng t) (hU0 rfl)
        have hel := esc_len t.size (bytesOf t)
        rw [bytesOf_length] at hel
        refine ⟨inv0 w0 t it kn vn num names kids fl at' ht hu, ?_, ?_⟩
        · exact ((U8.small (l := [34]) (by decide)).app (esc_good hu t.size (by rw [bytesOf_length]; omega)).1).app (U8.small (l := [34]) (by decide))
        · show ([34] ++ esc decL t.size (bytesOf t) ++ [34]).length + 4 ≤ _
          simp only [List.length_append, List.length_cons, List.length_nil]
          omega
      · have e : bytesOf (textS 1 t num) = bytesOf (boolS (num != 0)) := rfl
        have hb : ∃ c r, bytesOf (boolS (num != 0)) = c :: r ∧ (c ≠ 32 ∧ c ≠ 9 ∧ c ≠ 10 ∧ c ≠ 13) := by
          cases (num != 0)
          · exact ⟨102, [97, 108, 115, 101], by decide, by decide⟩
          · exact ⟨116, [114, 117, 101], by decide, by decide⟩
        obtain ⟨c, r, hcr, hcs⟩ := hb
        refine ⟨invT1 w0 t it kn vn num names kids fl at' ht2 hnum.1 hnum.2 e hcr hcs, ?_, ?_⟩
        · show U8 (fun _ => true) (bytesOf (boolS (num != 0)))
          cases (num != 0) <;> exact U8.small (by decide)
        · show (bytesOf (boolS (num != 0))).length + 4 ≤ _
          have : (bytesOf (boolS (num != 0))).length ≤ 5 := by cases (num != 0) <;> decide
          omega
      · have r8 := i8_rng num
        obtain ⟨c, r, hcr, hcs⟩ := itoaB_head (IntKind.i8.wrap num) (by omega) (by omega)
        have hu8 : U8 (fun _ => true) (itoaB (IntKind.i8.wrap num)) := U8.small (itoaB_U8 (IntKind.i8.wrap num) (by omega) (by omega))
        refine ⟨invT2 w0 t it kn vn num names kids fl at' ht2 hnum.1 hnum.2 (ys := itoaB (IntKind.i8.wrap num)) rfl hcr (by omega), hu8, ?_⟩
        show (itoaB (IntKind.i8.wrap num)).length + 4 ≤ _
        have := itoaB_len (IntKind.i8.wrap num) (by omega) (by omega)
        omega
      · have r16 := i16_rng num
        obtain ⟨c, r, hcr, hcs⟩ := itoaB_head (IntKind.i16.wrap num) (by omega) (by omega)
        have hu8 : U8 (fun _ => true) (itoaB (IntKind.i16.wrap num)) := U8.small (itoaB_U8 (IntKind.i16.wrap num) (by omega) (by omega))
        refine ⟨invT3 w0 t it kn vn num names kids fl at' ht2 hnum.1 hnum.2 (ys := itoaB (IntKind.i16.wrap num)) rfl hcr (by omega), hu8, ?_⟩
        show (itoaB (IntKind.i16.wrap num)).length + 4 ≤ _
        have := itoaB_len (IntKind.i16.wrap num) (by omega) (by omega)
        omega
      · have r32 := i32_rng num
        obtain ⟨c, r, hcr, hcs⟩ := itoaB_head (wrap32 num) (by omega) (by omega)
        have hu8 : U8 (fun _ => true) (itoaB (wrap32 num)) := U8.small (itoaB_U8 (wrap32 num) (by omega) (by omega))
        refine ⟨invT4 w0 t it kn vn num names kids fl at' ht2 hnum.1 hnum.2 (ys := itoaB (wrap32 num)) rfl hcr (by omega), hu8, ?_⟩
        show (itoaB (wrap32 num)).length + 4 ≤ _
        have := itoaB_len (wrap32 num) (by omega) (by omega)
        omega
      · obtain ⟨c, r, hcr, hcs⟩ := itoaB_head num hnum.1 hnum.2
        refine ⟨invT5 w0 t it kn vn num names kids fl at' ht2 hnum.1 hnum.2 (ys := itoaB num) rfl hcr (by omega), U8.small (itoaB_U8 _ hnum.1 hnum.2), ?_⟩
        show (itoaB num).length + 4 ≤ _
        have := itoaB_len num hnum.1 hnum.2
        omega
      · have hsz6 := b64_size t
        refine ⟨inv6 w0 t it kn vn num names kids fl at' ht hnum.1 hnum.2, ?_, ?_⟩
        · exact ((U8.small (l := [34]) (by decide)).app (U8.small (fun x hx => by have := b64_rng t x hx; omega))).app (U8.small (l := [34]) (by decide))
        · show ([34] ++ bytesOf (b64 t) ++ [34]).length + 4 ≤ _
          simp only [List.length_append, List.length_cons, List.length_nil, bytesOf_length]
          omega
      · refine ⟨inv10 w0 t it kn vn num names kids fl at', U8.small (l := bytesOf ⟨#[110, 117, 108, 108]⟩) (by decide), ?_⟩
        show (4 : Nat) + 4 ≤ _
        omega
      · have hu64 : (num % 18446744073709551616).toNat < 18446744073709551616 := by omega
        have e : jvL decL (l + 1) ⟨11, t, num, names, kids, fl, it, kn, vn, at'⟩ = bytesOf ⟨(Lib.decDigits (num % 18446744073709551616).toNat).toArray⟩ := by
          unfold jvL
          rw [if_neg (show ¬ (11 : Int) = 1 by decide), if_neg (show ¬ (11 : Int) = 2 by decide), if_neg (show ¬ (11 : Int) = 3 by decide), if_neg (show ¬ (11 : Int) = 4 by decide), if_neg (show ¬ (11 : Int) = 5 by decide), if_pos rfl]
        have e2 : bytesOf (textS 11 t num) = digs (num % 18446744073709551616).toNat := by
          unfold textS
          rw [if_neg (show ¬ (11 : Int) = 6 by decide), if_pos rfl]
          exact bytes_nums _ (fun x hx => by have := digs_U8 _ hu64 x hx; omega)
        rw [e, digsB]
        obtain ⟨c, r, hcr, hcs⟩ := digs_head (num % 18446744073709551616).toNat (by omega)
        have hl20 := digs_len20 _ hu64
        have hdu := digs_U8 _ hu64
        generalize digs (num % 18446744073709551616).toNat = ds at *
        exact ⟨invT11 w0 t it kn vn num names kids fl at' ht2 hnum.1 hnum.2 e2 hcr (by omega), U8.small hdu, by omega⟩
    · subst h8
      obtain ⟨g1, g2⟩ := je_good (f := jvL decL l) (kids := kids) (N := fun y => 6 * bytL l y + 48 * cntL l y) (fun y hy => ⟨(ih y hy).1.u, (ih y hy).1.len⟩) kids.length (Nat.le_refl _)
      rw [List.take_length] at g2
      refine ⟨inv8 w0 t it kn vn num names kids fl at' (fun y hy => (ih y hy).1.v), ((U8.small (l := [91]) (by decide)).app g1).app (U8.small (l := [93]) (by decide)), ?_⟩
      show ([91] ++ je (jvL decL l) kids kids.length ++ [93]).length + 4 ≤ _
      simp only [List.length_append, List.length_cons, List.length_nil]
      omega
    · subst h9
      replace h1 : names.length = kids.length := h1
      obtain ⟨g1, g2⟩ := jm_good (f := jvL decL l) (N := fun y => 6 * bytL l y + 48 * cntL l y) h1 hU' (fun y hy => ⟨(ih y hy).1.u, (ih y hy).1.len⟩) kids.length (Nat.le_refl _)
      have ev := inv9 w0 t it kn vn num names kids fl at' h1 hnm hU' (fun y hy => (ih y hy).1.v)
      rw [← h1] at ev g1
      rw [List.take_length, List.take_of_length_le (by omega)] at g2
      refine ⟨ev, ((U8.small (l := [123]) (by decide)).app g1).app (U8.small (l := [125]) (by decide)), ?_⟩
      show ([123] ++ jm decL (jvL decL l) names kids names.length ++ [125]).length + 4 ≤ _
      rw [h1]
      simp only [List.length_append, List.length_cons, List.length_nil]
      omega
    · subst h7
      replace h1 : names.length = kids.length := h1
      obtain ⟨g1, g2⟩ := jm_good (f := jvL decL l) (N := fun y => 6 * bytL l y + 48 * cntL l y) h1 hU' (fun y hy => ⟨(ih y hy).1.u, (ih y hy).1.len⟩) kids.length (Nat.le_refl _)
      have ev := inv7 w0 t it kn vn num names kids fl at' h1 hnm hU' (fun y hy => (ih y hy).1.v)
      rw [← h1] at ev g1
      rw [List.take_length, List.take_of_length_le (by omega)] at g2
      refine ⟨ev, ((U8.small (l := [123]) (by decide)).app g1).app (U8.small (l := [125]) (by decide)), ?_⟩
      show ([123] ++ jm decL (jvL decL l) names kids names.length ++ [125]).length + 4 ≤ _
      rw [h1]
      simp only [List.length_append, List.length_cons, List.length_nil]
      omega
end H
end Go.Proofs.YtkihaebaccdjdaaGreatDoor
namespace Go.Proofs.YtkihaebaccdjdaaGreatDoor.PX
open Go.RowKit Go.Proofs.YtkihaebaccdjdaaGreatDoorW.PrintWords Go.Proofs.YtkihaebaccdjdaaGreatDoorW.PrintLast Go.Proofs.YtkihaebaccdjdaaGreatDoorW.PrintMore
attribute [local go_sem] max2_int min2_int max_two min_two max_three min_three max_four min_four   -- for this text's walks alone
set_option linter.unusedVariables false
set_option linter.unusedSimpArgs false

/-! ### spec_isScalar: function 105 -/
def spec_isScalar.f (a0 : Int) : Option (Bool) := if a0 ≥ 0 then (if a0 ≤ 6 then (some true) else (if a0 = 10 then (some true) else (some (a0 == 11)))) else (if a0 = 10 then (some true) else (some (a0 == 11)))
set_option maxHeartbeats 8000000 in
set_option maxRecDepth 100000 in
theorem spec_isScalar.calls (a0 : Int) (r : Bool) (w : World) (h : spec_isScalar.f a0 = some r) :
 Calls Tryz.prog 105 #[.int .i64 a0] w fun e w' => e = .returned (.bool r) ∧ Drawn0 w w' := by
 have H : (if a0 ≥ 0 then (if a0 ≤ 6 then (some true) else (if a0 = 10 then (some true) else (some (a0 == 11)))) else (if a0 = 10 then (some true) else (some (a0 == 11)))) = some r := h
 clear h
 by_cases c2 : a0 ≥ 0
 ·rw [if_pos c2] at H
  have c2b0 : decide (0 ≤ a0) = true := decide_eq_true c2
  clear c2
  by_cases c3 : a0 ≤ 6
  ·rw [if_pos c3] at H
   have c3b0 : decide (a0 ≤ 6) = true := decide_eq_true c3
   clear c3
   obtain rfl := Option.some.inj H
   go_enter Tryz.func105, Tryz.ntmps105
   go_wp2
   go_ret
   exact ⟨by first | rfl | (simp; done) | (simp [*]; done), by repeat (first | exact Drawn0.refl _ | apply Drawn0.step)⟩
  ·rw [if_neg c3] at H
   have c3b0 : decide (a0 ≤ 6) = false := decide_eq_false c3
   clear c3
   by_cases c4 : a0 = 10
   ·rw [if_pos c4] at H
    have c4b0 : (a0 == 10) = true := beq_iff_eq.mpr c4
    have c4b1 : (a0 != 10) = false := bne_eq_false_iff_eq.mpr c4
    clear c4
    obtain rfl := Option.some.inj H
    go_enter Tryz.func105, Tryz.ntmps105
    go_wp2
    go_ret
    exact ⟨by first | rfl | (simp; done) | (simp [*]; done), by repeat (first | exact Drawn0.refl _ | apply Drawn0.step)⟩
   ·rw [if_neg c4] at H
    have c4b0 : (a0 == 10) = false := beq_eq_false_iff_ne.mpr c4
    have c4b1 : (a0 != 10) = true := bne_iff_ne.mpr c4
    obtain rfl := Option.some.inj H
    go_enter Tryz.func105, Tryz.ntmps105
    go_wp2
    go_ret
    exact ⟨by first | rfl | (simp; done) | (simp [*]; done), by repeat (first | exact Drawn0.refl _ | apply Drawn0.step)⟩
 ·rw [if_neg c2] at H
  have c2b0 : decide (0 ≤ a0) = false := decide_eq_false c2
  clear c2
  by_cases c5 : a0 = 10
  ·rw [if_pos c5] at H
   have c5b0 : (a0 == 10) = true := beq_iff_eq.mpr c5
   have c5b1 : (a0 != 10) = false := bne_eq_false_iff_eq.mpr c5
   clear c5
   obtain rfl := Option.some.inj H
   go_enter Tryz.func105, Tryz.ntmps105
   go_wp2
   go_ret
   exact ⟨by first | rfl | (simp; done) | (simp [*]; done), by repeat (first | exact Drawn0.refl _ | apply Drawn0.step)⟩
  ·rw [if_neg c5] at H
   have c5b0 : (a0 == 10) = false := beq_eq_false_iff_ne.mpr c5
   have c5b1 : (a0 != 10) = true := bne_iff_ne.mpr c5
   obtain rfl := Option.some.inj H
   go_enter Tryz.func105, Tryz.ntmps105
   go_wp2
   go_ret
   exact ⟨by first | rfl | (simp; done) | (simp [*]; done), by repeat (first | exact Drawn0.refl _ | apply Drawn0.step)⟩

end Go.Proofs.YtkihaebaccdjdaaGreatDoor.PX
