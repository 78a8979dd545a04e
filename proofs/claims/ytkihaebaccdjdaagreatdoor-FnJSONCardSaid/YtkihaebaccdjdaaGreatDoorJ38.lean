import Derived.Test.YtkihaebaccdjdaaGreatDoorJ37
import Derived.Test.YtkihaebaccdjdaaGreatDoorJ35
import Derived.Test.YtkihaebaccdjdaaGreatDoorJ14
set_option linter.unusedVariables false
set_option linter.unusedSimpArgs false
namespace Go.Proofs.YtkihaebaccdjdaaGreatDoor
open Go.RowKit Go.Proofs.YtkihaebaccdjdaaGreatDoorW.PrintWords Go.Proofs.YtkihaebaccdjdaaGreatDoorW.PrintLast Go.Proofs.YtkihaebaccdjdaaGreatDoorW.PrintMore
open PX
namespace H
/-! ### Keys, Array.Value, with the scratch's state -/
theorem js96 {dec : List Int → Int × Nat} {D : World → Prop} {B b ob sc : Nat} {X : Nat → Prop} {xs : List Int} (HD : DD dec D B) (cm : Bool) (s : ByteArray) (w : World) (h : JS B (fun k => X k ∨ k = ob) b sc xs w) (hXo : ¬ X ob) (hBo : B ≤ ob)
    (ho : w.heap[ob]? = some (.cells #[.pointer (some ⟨b, 0, none⟩), .bool cm, .pointer (some ⟨sc, 0, none⟩)] 200 (0, 0))) (hD : D w) (hs : s.size ≤ 2147483647) (hl : (xs ++ ((if cm then [44] else []) ++ ([34] ++ esc dec s.size (bytesOf s) ++ [34] ++ [58]))).length ≤ 140737488355328) :
    Calls Tryz.prog 96 #[.pointer (some ⟨ob, 0, none⟩), .string s] w fun e w' => e = .returned (.agg #[.pointer (some ⟨b, 0, none⟩), .pointer (some ⟨sc, 0, none⟩)]) ∧ JS B (fun k => X k ∨ k = ob) b sc (xs ++ ((if cm then [44] else []) ++ ([34] ++ esc dec s.size (bytesOf s) ++ [34] ++ [58]))) w' ∧
      w'.heap[ob]? = some (.cells #[.pointer (some ⟨b, 0, none⟩), .bool true, .pointer (some ⟨sc, 0, none⟩)] 200 (0, 0)) ∧ Fr (fun k => B ≤ k ∧ ¬ X k) w w' ∧ D w' := by
  obtain ⟨v, zs, h1, h2, h3, hJ⟩ := h.out
  have hne : ob ≠ sc := fun e => by
    subst e
    rw [h1] at ho
    injection ho with ho
    injection ho with _ ho _
    exact absurd ho (by decide)
  have hX' : ¬ XS X sc v ob := by
    rintro (e | e | e)
    · exact hXo e
    · exact hne e
    · exact own_ne (by decide) ho h2 ob e rfl
  have hJ' : JB 150 B (fun k => XS X sc v k ∨ k = ob) b xs w := hJ.less (fun k hk => by
    rcases hk with (e | e | e) | e
    · exact .inl (.inl e)
    · exact .inr (.inl e)
    · exact .inr (.inr e)
    · exact .inl (.inr e))
  have fin : ∀ (ys : List Int) (w' : World), JB 150 B (fun k => XS X sc v k ∨ k = ob) b ys w' → Fr (fun k => B ≤ k ∧ ¬ XS X sc v k) w w' → JS B (fun k => X k ∨ k = ob) b sc ys w' ∧ Fr (fun k => B ≤ k ∧ ¬ X k) w w' := fun ys w' k1 k3 =>
    ⟨⟨⟨v, zs, k3.heap h1 (fun e => e.2 (.inr (.inl rfl))), k3.own h2 (fun k hk e => e.2 (.inr (.inr hk))), h3, k1.less (fun k hk => by
      rcases hk with (e | e) | e | e
      · exact .inl (.inl e)
      · exact .inr e
      · exact .inl (.inr (.inl e))
      · exact .inl (.inr (.inr e)))⟩, h.ge, h.ne⟩, k3.mono (fun k _ e => ⟨e.1, fun hx => e.2 (.inl hx)⟩)⟩
  cases cm
  · refine (jkey HD s w hJ' hX' hBo ho hD hs (by simp at hl ⊢; omega)).mono ?_
    rintro e w' ⟨rfl, k1, k2, k3, k4⟩
    obtain ⟨q1, q2⟩ := fin _ w' k1 k3
    exact ⟨rfl, by simpa using q1, k2, q2, k4⟩
  · refine (jkeyT HD s w hJ' hX' hBo ho hD hs (by simp at hl ⊢; omega)).mono ?_
    rintro e w' ⟨rfl, k1, k2, k3, k4⟩
    obtain ⟨q1, q2⟩ := fin _ w' k1 k3
    exact ⟨rfl, by simpa using q1, k2, q2, k4⟩
theorem js99 {dec : List Int → Int × Nat} {D : World → Prop} {B b ob sc : Nat} {X : Nat → Prop} {xs : List Int} (HD : DD dec D B) (cm : Bool) (w : World) (h : JS B (fun k => X k ∨ k = ob) b sc xs w) (hXo : ¬ X ob) (hBo : B ≤ ob)
    (ho : w.heap[ob]? = some (.cells #[.pointer (some ⟨b, 0, none⟩), .bool cm, .pointer (some ⟨sc, 0, none⟩)] 203 (0, 0))) (hD : D w) (hl : xs.length + 1 ≤ 140737488355328) :
    Calls Tryz.prog 99 #[.pointer (some ⟨ob, 0, none⟩)] w fun e w' => e = .returned (.agg #[.pointer (some ⟨b, 0, none⟩), .pointer (some ⟨sc, 0, none⟩)]) ∧ JS B (fun k => X k ∨ k = ob) b sc (xs ++ (if cm then [44] else [])) w' ∧
      w'.heap[ob]? = some (.cells #[.pointer (some ⟨b, 0, none⟩), .bool true, .pointer (some ⟨sc, 0, none⟩)] 203 (0, 0)) ∧ Fr (fun k => B ≤ k ∧ ¬ X k) w w' ∧ D w' := by
  obtain ⟨v, zs, h1, h2, h3, hJ⟩ := h.out
  have hne : ob ≠ sc := fun e => by
    subst e
    rw [h1] at ho
    injection ho with ho
    injection ho with _ ho _
    exact absurd ho (by decide)
  have hX' : ¬ XS X sc v ob := by
    rintro (e | e | e)
    · exact hXo e
    · exact hne e
    · exact own_ne (by decide) ho h2 ob e rfl
  have hJ' : JB 150 B (fun k => XS X sc v k ∨ k = ob) b xs w := hJ.less (fun k hk => by
    rcases hk with (e | e | e) | e
    · exact .inl (.inl e)
    · exact .inr (.inl e)
    · exact .inr (.inr e)
    · exact .inl (.inr e))
  have fin : ∀ (ys : List Int) (w' : World), JB 150 B (fun k => XS X sc v k ∨ k = ob) b ys w' → Fr (fun k => B ≤ k ∧ ¬ XS X sc v k) w w' → JS B (fun k => X k ∨ k = ob) b sc ys w' ∧ Fr (fun k => B ≤ k ∧ ¬ X k) w w' := fun ys w' k1 k3 =>
    ⟨⟨⟨v, zs, k3.heap h1 (fun e => e.2 (.inr (.inl rfl))), k3.own h2 (fun k hk e => e.2 (.inr (.inr hk))), h3, k1.less (fun k hk => by
      rcases hk with (e | e) | e | e
      · exact .inl (.inl e)
      · exact .inr e
      · exact .inl (.inr (.inl e))
      · exact .inl (.inr (.inr e)))⟩, h.ge, h.ne⟩, k3.mono (fun k _ e => ⟨e.1, fun hx => e.2 (.inl hx)⟩)⟩
  cases cm
  · refine (javF HD w hJ' hX' hBo ho hD hl).mono ?_
    rintro e w' ⟨rfl, k1, k2, k3, k4⟩
    obtain ⟨q1, q2⟩ := fin _ w' k1 k3
    exact ⟨rfl, by simpa using q1, k2, q2, k4⟩
  · refine (javT HD w hJ' hX' hBo ho hD hl).mono ?_
    rintro e w' ⟨rfl, k1, k2, k3, k4⟩
    obtain ⟨q1, q2⟩ := fin _ w' k1 k3
    exact ⟨rfl, by simpa using q1, k2, q2, k4⟩
/-- The members of an object, the elements of a list: the first i. -/
def jm (dec : List Int → Int × Nat) (f : S28 → List Int) (names : List ByteArray) (kids : List S28) : Nat → List Int
  | 0 => []
  | i + 1 => jm dec f names kids i ++ (((if i = 0 then [] else [44]) ++ ([34] ++ esc dec (names.getD i ByteArray.empty).size (bytesOf (names.getD i ByteArray.empty)) ++ [34] ++ [58])) ++ f (kids.getD i z28))
def je (f : S28 → List Int) (kids : List S28) : Nat → List Int
  | 0 => []
  | i + 1 => je f kids i ++ ((if i = 0 then [] else [44]) ++ f (kids.getD i z28))
theorem jm_mono (dec : List Int → Int × Nat) (f : S28 → List Int) (names : List ByteArray) (kids : List S28) {i n : Nat} (h : i ≤ n) : (jm dec f names kids i).length ≤ (jm dec f names kids n).length := by
  induction n with
  | zero => obtain rfl : i = 0 := by omega
            exact Nat.le_refl _
  | succ n ih =>
    by_cases hi : i = n + 1
    · rw [hi]; exact Nat.le_refl _
    · have := ih (by omega)
      rw [jm, List.length_append]
      omega
theorem je_mono (f : S28 → List Int) (kids : List S28) {i n : Nat} (h : i ≤ n) : (je f kids i).length ≤ (je f kids n).length := by
  induction n with
  | zero => obtain rfl : i = 0 := by omega
            exact Nat.le_refl _
  | succ n ih =>
    by_cases hi : i = n + 1
    · rw [hi]; exact Nat.le_refl _
    · have := ih (by omega)
      rw [je, List.length_append]
      omega
/-- inJSON's contract at one node. -/
def InJ (D : World → Prop) (B b sc : Nat) (w0 : World) (y : S28) (ys : List Int) : Prop :=
  ∀ (q : NA) (X : Nat → Prop) (xs : List Int) (w : World), NH w0 y q → Below w0.heap.size w0 w → JS B X b sc xs w → D w → (xs ++ ys).length + 30 ≤ 140737488355328 →
    Calls Tryz.prog 39 #[.agg #[.pointer (some ⟨b, 0, none⟩), .pointer (some ⟨sc, 0, none⟩)], NV y q] w fun e w' => e = .returned (.tuple #[]) ∧ WrS B X b sc (xs ++ ys) w w' ∧ D w'
set_option maxHeartbeats 8000000 in
set_option maxRecDepth 100000 in
theorem inj7 {dec : List Int → Int × Nat} {D : World → Prop} {B b sc : Nat} {f : S28 → List Int} (HD : DD dec D B) (w0 : World) (hB0 : w0.heap.size ≤ B) (t it kn vn : ByteArray) (num : Int) (names : List ByteArray) (kids : List S28) (fl : List Bool) (at' : List S45) (hlen : names.length = kids.length) (hnm : ∀ s ∈ names, s.size ≤ 20000)
    (ih : ∀ y ∈ kids, InJ D B b sc w0 y (f y)) : InJ D B b sc w0 ⟨7, t, num, names, kids, fl, it, kn, vn, at'⟩ ([123] ++ jm dec f names kids names.length ++ [125]) := by
  intro p X xs w hN hb0 h hD hl
  have hl1 : xs.length + 30 ≤ 140737488355328 := by simp at hl; omega
  obtain ⟨A3, c3, A4, c4, A5, c5, A9, c9⟩ := p
  obtain ⟨n5, hn5⟩ : ∃ n5, fl.length = n5 := ⟨_, rfl⟩
  obtain ⟨n9, hn9⟩ : ∃ n9, at'.length = n9 := ⟨_, rfl⟩
  have hb := below_alloc (below_alloc (Below.refl w.heap.size w) (.cells #[.pointer (some ⟨b, 0, none⟩), .pointer (some ⟨sc, 0, none⟩)] 88)) (.cells #[.int .i64 7, .string t, .int .i64 num, .slice A3 names.length c3, .slice A4 kids.length c4, .slice A5 n5 c5, .string it, .string kn, .string vn, .slice A9 n9 c9] 28)
  have hnd := heap_new (w.alloc (.cells #[.pointer (some ⟨b, 0, none⟩), .pointer (some ⟨sc, 0, none⟩)] 88)) (.cells #[.int .i64 7, .string t, .int .i64 num, .slice A3 names.length c3, .slice A4 kids.length c4, .slice A5 n5 c5, .string it, .string kn, .string vn, .slice A9 n9 c9] 28)
  have hsz : (w.alloc (.cells #[.pointer (some ⟨b, 0, none⟩), .pointer (some ⟨sc, 0, none⟩)] 88)).heap.size = w.heap.size + 1 := by simp
  rw [hsz] at hnd
  have hJ1 := h.also hb (g := w.heap.size + 1) (by omega) (by simp)
  have hBw := h.leB
  have hB1 := bel_fr hb0 (Fr.of_below (S := fun _ => False) hb) (fun _ h => h.elim)
  obtain ⟨nd, hndq⟩ : ∃ nd, w.heap.size + 1 = nd := ⟨_, rfl⟩
  have hF1 := Aside0.mk (Fr.of_below (S := fun k => B ≤ k ∧ ¬ X k) hb)
  have hD1 := Aside0.mk (HD.keep X _ _ hD hF1.out)
  have hXnd : Aside0 (¬ X nd) := ⟨fun e => by have := h.low _ e; omega⟩
  have hBn : B ≤ nd := by omega
  replace hndq := Aside0.mk hndq; replace hlen := Aside0.mk hlen
  replace h := Aside0.mk h; replace hD := Aside0.mk hD; replace hl := Aside0.mk hl; replace hN := Aside0.mk hN; replace hb0 := Aside0.mk hb0; replace hb := Aside0.mk hb; replace hB1 := Aside0.mk hB1; replace ih := Aside0.mk ih; replace hnm := Aside0.mk hnm; replace hJ1 := Aside0.mk hJ1; replace HD := Aside0.mk HD
  unfold NV
  dsimp only
  rw [hn5, hn9]
  go_enter Tryz.func39, Tryz.ntmps39
  go_wp2_with fail
  generalize (w.alloc (.cells #[.pointer (some ⟨b, 0, none⟩), .pointer (some ⟨sc, 0, none⟩)] 88)).alloc (.cells #[.int .i64 7, .string t, .int .i64 num, .slice A3 names.length c3, .slice A4 kids.length c4, .slice A5 n5 c5, .string it, .string kn, .string vn, .slice A9 n9 c9] 28) = w1 at *
  rw [hndq.out] at hnd hJ1 ⊢
  replace hnd := Aside0.mk hnd
  clear hsz
  obtain ⟨v, zs, h1, h2, h3, hJ⟩ := hJ1.out.out
  refine (jobj w1 hJ (by omega)).mono ?_
  rintro e w2 ⟨ob, rfl, hw2, hob, hO2, hob1⟩
  have hws := hJ1.out.wrote h1 h2 h3 hw2
  have hXo : Aside0 (¬ (X ob ∨ ob = nd)) := ⟨fun e => by have := hJ1.out.low _ e; omega⟩
  have hBo : B ≤ ob := by have := hJ1.out.leB; omega
  have hn2 := hws.2.heap hnd.out (fun e => e.2 (.inr rfl))
  have hJ2 := Aside0.mk (hws.1.plus hO2 (by decide) (by decide) (by decide))
  have hD2 := Aside0.mk (HD.out.keep _ _ _ hD1.out hws.2)
  have hF2 := Aside0.mk (hF1.out.trans hws.2 (fun k _ e => ⟨e.1, fun x => e.2 (.inl x)⟩))
  clear hw2 hws h1 h2 h3 hJ v zs
  have m3 := cell_at hn2 3
  simp at m3
  replace hn2 := Aside0.mk hn2; replace hO2 := Aside0.mk hO2
  have hmx := Aside0.mk (Kd.C_max hN.out.h3)
  go_wp2_with fail
  go_loopg [76] names.length (fun q v76 w' => ∃ i : Nat, v76 = .int .i64 (i : Int) ∧ q + i = names.length ∧ Aside0 (JS B (fun k => (X k ∨ k = nd) ∨ k = ob) b sc (xs ++ ([123] ++ jm dec f names kids i)) w') ∧
      Aside0 (w'.heap[ob]? = some (.cells #[.pointer (some ⟨b, 0, none⟩), .bool (!(i == 0)), .pointer (some ⟨sc, 0, none⟩)] 200 (0, 0))) ∧ Aside0 (w'.heap[nd]? = some (.cells #[.int .i64 7, .string t, .int .i64 num, .slice A3 names.length c3, .slice A4 kids.length c4, .slice A5 n5 c5, .string it, .string kn, .string vn, .slice A9 n9 c9] 28 (0, 0))) ∧ Aside0 (Fr (fun k => B ≤ k ∧ ¬ X k) w w') ∧ Aside0 (D w'))
  case atStart => exact ⟨0, rfl, by omega, .mk (by simpa [jm] using hJ2.out), hO2, hn2, hF2, hD2⟩
  case round =>
    clear m3 hJ2 hO2 hn2 hF2 hD2
    obtain ⟨i, rfl, hq, hJ, hO, hn, hF, hDx⟩ := hrel
    have hi0 : ((0 : Int) ≤ (i : Int)) = True := eq_true (by omega)
    by_cases hi : i < names.length
    · have hi1 : ((i : Int) < (names.length : Int)) = True := eq_true (by omega)
      have hi2 : ((i : Int) < (kids.length : Int)) = True := eq_true (by have := hlen.out; omega)
      have e6 : IntKind.i64.wrap ((i : Int) + 1) = (i : Int) + 1 := w64i _ (by omega) (by have := hmx.out; omega)
      have hBx := Aside0.mk (bel_fr hb0.out hF.out (fun k hk => by have := hk.1; omega))
      obtain ⟨an, hA, hc⟩ := hN.out.name i hi
      dsimp only at hA
      subst hA
      dsimp only at hc
      replace hc := cell_below hBx.out hc
      obtain ⟨ad, qy, hA, kc0, hNq⟩ := hN.out.kid i (by show i < kids.length; have := hlen.out; omega)
      dsimp only at hA
      subst hA
      dsimp only at kc0 hNq
      have hns := hnm.out _ (getD_mem ByteArray.empty hi)
      have hyk : kids.getD i z28 ∈ kids := getD_mem z28 (by have := hlen.out; omega)
      have hbnd := hl.out
      have hm1 := jm_mono dec f names kids (show i + 1 ≤ names.length by omega)
      have hjn : jm dec f names kids (i + 1) = jm dec f names kids i ++ (((if i = 0 then [] else [44]) ++ ([34] ++ esc dec (names.getD i ByteArray.empty).size (bytesOf (names.getD i ByteArray.empty)) ++ [34] ++ [58])) ++ f (kids.getD i z28)) := rfl
      have hcme : (if i = 0 then ([] : List Int) else [44]) = (if (!(i == 0)) = true then [44] else []) := by by_cases h0 : i = 0 <;> simp [h0]
      rw [hcme] at hjn
      obtain ⟨sn, hsn⟩ : ∃ sn, names.getD i ByteArray.empty = sn := ⟨_, rfl⟩
      obtain ⟨y, hy⟩ : ∃ y, kids.getD i z28 = y := ⟨_, rfl⟩
      obtain ⟨cm, hcm⟩ : ∃ cm, (!(i == 0)) = cm := ⟨_, rfl⟩
      rw [hsn] at hc hns hjn
      rw [hy] at kc0 hNq hyk hjn
      rw [hcm] at hjn hO
      obtain ⟨B3, d3, B4, d4, B5, d5, B9, d9⟩ := qy
      have hb1 : Aside0 ((xs ++ ([123] ++ jm dec f names kids i) ++ (((if cm then [44] else []) ++ ([34] ++ esc dec sn.size (bytesOf sn) ++ [34] ++ [58])) ++ f y)).length + 30 ≤ 140737488355328) := .mk (by rw [hjn] at hm1; simp only [List.length_append] at hm1 hbnd ⊢; simp only [List.length_cons, List.length_nil] at hm1 hbnd ⊢; omega)
      replace hjn := Aside0.mk hjn; replace kc0 := Aside0.mk kc0; replace hNq := Aside0.mk hNq; replace hyk := Aside0.mk hyk; replace hy := Aside0.mk hy; replace hsn := Aside0.mk hsn
      clear hcm hcme hm1 hbnd
      obtain ⟨y0, y1, y2, y3, y4, y5, y6, y7, y8, y9⟩ := kc0.out.below hBx.out
      dsimp only at y0 y1 y2 y3 y4 y5 y6 y7 y8 y9
      have n4 := cell_at hn.out 4
      simp at n4
      go_wp2_with fail
      go_region_held3 (fun w' => w'.cell? ⟨nd, 4, none⟩ = some (.slice (some ad) kids.length c4) ∧ w'.cell? (ad.add (i * 10)) = some (.int .i64 y.f0) ∧ w'.cell? ⟨(ad.add (i * 10)).block, (ad.add (i * 10)).off + 1, none⟩ = some (.string y.f1) ∧ w'.cell? ⟨(ad.add (i * 10)).block, (ad.add (i * 10)).off + 2, none⟩ = some (.int .i64 y.f2) ∧ w'.cell? ⟨(ad.add (i * 10)).block, (ad.add (i * 10)).off + 3, none⟩ = some (.slice B3 y.f3.length d3) ∧ w'.cell? ⟨(ad.add (i * 10)).block, (ad.add (i * 10)).off + 4, none⟩ = some (.slice B4 y.f4.length d4) ∧ w'.cell? ⟨(ad.add (i * 10)).block, (ad.add (i * 10)).off + 5, none⟩ = some (.slice B5 y.f5.length d5) ∧ w'.cell? ⟨(ad.add (i * 10)).block, (ad.add (i * 10)).off + 6, none⟩ = some (.string y.f6) ∧ w'.cell? ⟨(ad.add (i * 10)).block, (ad.add (i * 10)).off + 7, none⟩ = some (.string y.f7) ∧ w'.cell? ⟨(ad.add (i * 10)).block, (ad.add (i * 10)).off + 8, none⟩ = some (.string y.f8) ∧ w'.cell? ⟨(ad.add (i * 10)).block, (ad.add (i * 10)).off + 9, none⟩ = some (.slice B9 y.f9.length d9)) (simp [*, World.cell?_setCell_far]) (first | ((go_at_call 96; refine (js96 HD.out cm sn _ (hJ.out.calm (drewB _)) hXo.out hBo hO.out (HD.out.keep X _ _ hDx.out (Fr.of_below (drewB _))) (by omega) (by have := hb1.out; simp only [List.length_append] at this ⊢; omega)).mono ?_; rintro e w3 ⟨rfl, hJ3, hO3, hF3, hD3⟩; replace hF3 := undrewF hF3; have hn3 := hF3.heap hn.out (fun e => e.2 (.inr rfl)); have n4 := cell_at hn3 4; simp at n4; have hFw3 := Aside0.mk (hF.out.trans hF3 (fun k _ e => ⟨e.1, fun x => e.2 (.inl x)⟩)); obtain ⟨q0, q1, q2, q3, q4, q5, q6, q7, q8, q9⟩ := kc0.out.below (bel_fr hb0.out hFw3.out (fun k hk => by have := hk.1; omega)); dsimp only at q0 q1 q2 q3 q4 q5 q6 q7 q8 q9; replace hJ3 := Aside0.mk hJ3; replace hO3 := Aside0.mk hO3; replace hD3 := Aside0.mk hD3; replace hn3 := Aside0.mk hn3; clear hF3)) | ((go_at_call 39; refine (ih.out y hyk.out ⟨B3, d3, B4, d4, B5, d5, B9, d9⟩ _ _ w3 hNq.out (bel_fr hb0.out hFw3.out (fun k hk => by have := hk.1; omega)) hJ3.out hD3.out (by have := hb1.out; simp only [List.length_append] at this ⊢; omega)).mono ?_; rintro e w4 ⟨rfl, hw4, hD4⟩; have hO4 := hw4.2.heap hO3.out (fun e => e.2 (.inr rfl)); have hn4 := hw4.2.heap hn3.out (fun e => e.2 (.inl (.inr rfl))); have hF4 := Aside0.mk (hFw3.out.trans hw4.2 (fun k _ e => ⟨e.1, fun x => e.2 (.inl (.inl x))⟩)); have hJ4 : Aside0 (JS B (fun k => (X k ∨ k = nd) ∨ k = ob) b sc (xs ++ ([123] ++ jm dec f names kids (i + 1))) w4) := Aside0.mk (by have := hw4.1; rw [hjn.out]; simpa [List.append_assoc] using this); have n4 := cell_at hn4 4; simp at n4; obtain ⟨r0, r1, r2, r3, r4, r5, r6, r7, r8, r9⟩ := kc0.out.below (bel_fr hb0.out hF4.out (fun k hk => by have := hk.1; omega)); dsimp only at r0 r1 r2 r3 r4 r5 r6 r7 r8 r9; replace hO4 : Aside0 (w4.heap[ob]? = some (.cells #[.pointer (some ⟨b, 0, none⟩), .bool (!(i + 1 == 0)), .pointer (some ⟨sc, 0, none⟩)] 200 (0, 0))) := Aside0.mk (by simpa using hO4); replace hn4 := Aside0.mk hn4; replace hD4 := Aside0.mk hD4; clear hw4)))
      all_goals
        go_wp2_with fail
        go_roundg (names.length - (i + 1))
        case rel => exact ⟨i + 1, by push_cast; rfl, by omega, hJ4, hO4, hn4, hF4, hD4⟩
        case measure => omega
    · have hi1 : ((i : Int) < (names.length : Int)) = False := eq_false (by omega)
      obtain rfl : i = names.length := by omega
      have hc := cell_at hO.out 0
      simp at hc
      go_wp2_with fail
      obtain ⟨v, zs, h1, h2, h3, hJJ⟩ := hJ.out.out
      refine (jclose (v1 := .bool true) (v2 := .pointer (some ⟨sc, 0, none⟩)) wr hJJ hc (by have := hl.out; simp only [List.length_append, List.length_cons, List.length_nil] at this ⊢; omega)).mono ?_
      rintro e w4 ⟨rfl, hw4⟩
      have hws := hJ.out.wrote h1 h2 h3 hw4
      have hWS : Aside0 (WrS B X b sc (xs ++ ([123] ++ jm dec f names kids names.length ++ [125])) w w4) := .mk ⟨by have := hws.1.less (X' := X) (fun k hk => .inl (.inl hk)); simpa [List.append_assoc] using this, hF.out.trans hws.2 (fun k _ e => ⟨e.1, fun x => e.2 (.inl (.inl x))⟩)⟩
      have hD4 := Aside0.mk (HD.out.keep _ _ _ hDx.out hws.2)
      clear hws hw4
      go_wp2
      refine bodyPost_end (results_none rfl _ _ _) rfl ?_
      exact ⟨rfl, hWS.out, hD4.out⟩
set_option maxHeartbeats 8000000 in
set_option maxRecDepth 100000 in
theorem inj9 {dec : List Int → Int × Nat} {D : World → Prop} {B b sc : Nat} {f : S28 → List Int} (HD : DD dec D B) (w0 : World) (hB0 : w0.heap.size ≤ B) (t it kn vn : ByteArray) (num : Int) (names : List ByteArray) (kids : List S28) (fl : List Bool) (at' : List S45) (hlen : names.length = kids.length) (hnm : ∀ s ∈ names, s.size ≤ 20000)
    (ih : ∀ y ∈ kids, InJ D B b sc w0 y (f y)) : InJ D B b sc w0 ⟨9, t, num, names, kids, fl, it, kn, vn, at'⟩ ([123] ++ jm dec f names kids names.length ++ [125]) := by
  intro p X xs w hN hb0 h hD hl
  have hl1 : xs.length + 30 ≤ 140737488355328 := by simp at hl; omega
  obtain ⟨A3, c3, A4, c4, A5, c5, A9, c9⟩ := p
  obtain ⟨n5, hn5⟩ : ∃ n5, fl.length = n5 := ⟨_, rfl⟩
  obtain ⟨n9, hn9⟩ : ∃ n9, at'.length = n9 := ⟨_, rfl⟩
  have hb := below_alloc (below_alloc (Below.refl w.heap.size w) (.cells #[.pointer (some ⟨b, 0, none⟩), .pointer (some ⟨sc, 0, none⟩)] 88)) (.cells #[.int .i64 9, .string t, .int .i64 num, .slice A3 names.length c3, .slice A4 kids.length c4, .slice A5 n5 c5, .string it, .string kn, .string vn, .slice A9 n9 c9] 28)
  have hnd := heap_new (w.alloc (.cells #[.pointer (some ⟨b, 0, none⟩), .pointer (some ⟨sc, 0, none⟩)] 88)) (.cells #[.int .i64 9, .string t, .int .i64 num, .slice A3 names.length c3, .slice A4 kids.length c4, .slice A5 n5 c5, .string it, .string kn, .string vn, .slice A9 n9 c9] 28)
  have hsz : (w.alloc (.cells #[.pointer (some ⟨b, 0, none⟩), .pointer (some ⟨sc, 0, none⟩)] 88)).heap.size = w.heap.size + 1 := by simp
  rw [hsz] at hnd
  have hJ1 := h.also hb (g := w.heap.size + 1) (by omega) (by simp)
  have hBw := h.leB
  have hB1 := bel_fr hb0 (Fr.of_below (S := fun _ => False) hb) (fun _ h => h.elim)
  obtain ⟨nd, hndq⟩ : ∃ nd, w.heap.size + 1 = nd := ⟨_, rfl⟩
  have hF1 := Aside0.mk (Fr.of_below (S := fun k => B ≤ k ∧ ¬ X k) hb)
  have hD1 := Aside0.mk (HD.keep X _ _ hD hF1.out)
  have hXnd : Aside0 (¬ X nd) := ⟨fun e => by have := h.low _ e; omega⟩
  have hBn : B ≤ nd := by omega
  replace hndq := Aside0.mk hndq; replace hlen := Aside0.mk hlen
  replace h := Aside0.mk h; replace hD := Aside0.mk hD; replace hl := Aside0.mk hl; replace hN := Aside0.mk hN; replace hb0 := Aside0.mk hb0; replace hb := Aside0.mk hb; replace hB1 := Aside0.mk hB1; replace ih := Aside0.mk ih; replace hnm := Aside0.mk hnm; replace hJ1 := Aside0.mk hJ1; replace HD := Aside0.mk HD
  unfold NV
  dsimp only
  rw [hn5, hn9]
  go_enter Tryz.func39, Tryz.ntmps39
  go_wp2_with fail
  generalize (w.alloc (.cells #[.pointer (some ⟨b, 0, none⟩), .pointer (some ⟨sc, 0, none⟩)] 88)).alloc (.cells #[.int .i64 9, .string t, .int .i64 num, .slice A3 names.length c3, .slice A4 kids.length c4, .slice A5 n5 c5, .string it, .string kn, .string vn, .slice A9 n9 c9] 28) = w1 at *
  rw [hndq.out] at hnd hJ1 ⊢
  replace hnd := Aside0.mk hnd
  clear hsz
  obtain ⟨v, zs, h1, h2, h3, hJ⟩ := hJ1.out.out
  refine (jobj w1 hJ (by omega)).mono ?_
  rintro e w2 ⟨ob, rfl, hw2, hob, hO2, hob1⟩
  have hws := hJ1.out.wrote h1 h2 h3 hw2
  have hXo : Aside0 (¬ (X ob ∨ ob = nd)) := ⟨fun e => by have := hJ1.out.low _ e; omega⟩
  have hBo : B ≤ ob := by have := hJ1.out.leB; omega
  have hn2 := hws.2.heap hnd.out (fun e => e.2 (.inr rfl))
  have hJ2 := Aside0.mk (hws.1.plus hO2 (by decide) (by decide) (by decide))
  have hD2 := Aside0.mk (HD.out.keep _ _ _ hD1.out hws.2)
  have hF2 := Aside0.mk (hF1.out.trans hws.2 (fun k _ e => ⟨e.1, fun x => e.2 (.inl x)⟩))
  clear hw2 hws h1 h2 h3 hJ v zs
  have m3 := cell_at hn2 3
  simp at m3
  replace hn2 := Aside0.mk hn2; replace hO2 := Aside0.mk hO2
  have hmx := Aside0.mk (Kd.C_max hN.out.h3)
  go_wp2_with fail
  go_loopg [76] names.length (fun q v76 w' => ∃ i : Nat, v76 = .int .i64 (i : Int) ∧ q + i = names.length ∧ Aside0 (JS B (fun k => (X k ∨ k = nd) ∨ k = ob) b sc (xs ++ ([123] ++ jm dec f names kids i)) w') ∧
      Aside0 (w'.heap[ob]? = some (.cells #[.pointer (some ⟨b, 0, none⟩), .bool (!(i == 0)), .pointer (some ⟨sc, 0, none⟩)] 200 (0, 0))) ∧ Aside0 (w'.heap[nd]? = some (.cells #[.int .i64 9, .string t, .int .i64 num, .slice A3 names.length c3, .slice A4 kids.length c4, .slice A5 n5 c5, .string it, .string kn, .string vn, .slice A9 n9 c9] 28 (0, 0))) ∧ Aside0 (Fr (fun k => B ≤ k ∧ ¬ X k) w w') ∧ Aside0 (D w'))
  case atStart => exact ⟨0, rfl, by omega, .mk (by simpa [jm] using hJ2.out), hO2, hn2, hF2, hD2⟩
  case round =>
    clear m3 hJ2 hO2 hn2 hF2 hD2
    obtain ⟨i, rfl, hq, hJ, hO, hn, hF, hDx⟩ := hrel
    have hi0 : ((0 : Int) ≤ (i : Int)) = True := eq_true (by omega)
    by_cases hi : i < names.length
    · have hi1 : ((i : Int) < (names.length : Int)) = True := eq_true (by omega)
      have hi2 : ((i : Int) < (kids.length : Int)) = True := eq_true (by have := hlen.out; omega)
      have e6 : IntKind.i64.wrap ((i : Int) + 1) = (i : Int) + 1 := w64i _ (by omega) (by have := hmx.out; omega)
      have hBx := Aside0.mk (bel_fr hb0.out hF.out (fun k hk => by have := hk.1; omega))
      obtain ⟨an, hA, hc⟩ := hN.out.name i hi
      dsimp only at hA
      subst hA
      dsimp only at hc
      replace hc := cell_below hBx.out hc
      obtain ⟨ad, qy, hA, kc0, hNq⟩ := hN.out.kid i (by show i < kids.length; have := hlen.out; omega)
      dsimp only at hA
      subst hA
      dsimp only at kc0 hNq
      have hns := hnm.out _ (getD_mem ByteArray.empty hi)
      have hyk : kids.getD i z28 ∈ kids := getD_mem z28 (by have := hlen.out; omega)
      have hbnd := hl.out
      have hm1 := jm_mono dec f names kids (show i + 1 ≤ names.length by omega)
      have hjn : jm dec f names kids (i + 1) = jm dec f names kids i ++ (((if i = 0 then [] else [44]) ++ ([34] ++ esc dec (names.getD i ByteArray.empty).size (bytesOf (names.getD i ByteArray.empty)) ++ [34] ++ [58])) ++ f (kids.getD i z28)) := rfl
      have hcme : (if i = 0 then ([] : List Int) else [44]) = (if (!(i == 0)) = true then [44] else []) := by by_cases h0 : i = 0 <;> simp [h0]
      rw [hcme] at hjn
      obtain ⟨sn, hsn⟩ : ∃ sn, names.getD i ByteArray.empty = sn := ⟨_, rfl⟩
      obtain ⟨y, hy⟩ : ∃ y, kids.getD i z28 = y := ⟨_, rfl⟩
      obtain ⟨cm, hcm⟩ : ∃ cm, (!(i == 0)) = cm := ⟨_, rfl⟩
      rw [hsn] at hc hns hjn
      rw [hy] at kc0 hNq hyk hjn
      rw [hcm] at hjn hO
      obtain ⟨B3, d3, B4, d4, B5, d5, B9, d9⟩ := qy
      have hb1 : Aside0 ((xs ++ ([123] ++ jm dec f names kids i) ++ (((if cm then [44] else []) ++ ([34] ++ esc dec sn.size (bytesOf sn) ++ [34] ++ [58])) ++ f y)).length + 30 ≤ 140737488355328) := .mk (by rw [hjn] at hm1; simp only [List.length_append] at hm1 hbnd ⊢; simp only [List.length_cons, List.length_nil] at hm1 hbnd ⊢; omega)
      replace hjn := Aside0.mk hjn; replace kc0 := Aside0.mk kc0; replace hNq := Aside0.mk hNq; replace hyk := Aside0.mk hyk; replace hy := Aside0.mk hy; replace hsn := Aside0.mk hsn
      clear hcm hcme hm1 hbnd
      obtain ⟨y0, y1, y2, y3, y4, y5, y6, y7, y8, y9⟩ := kc0.out.below hBx.out
      dsimp only at y0 y1 y2 y3 y4 y5 y6 y7 y8 y9
      have n4 := cell_at hn.out 4
      simp at n4
      go_wp2_with fail
      go_region_held3 (fun w' => w'.cell? ⟨nd, 4, none⟩ = some (.slice (some ad) kids.length c4) ∧ w'.cell? (ad.add (i * 10)) = some (.int .i64 y.f0) ∧ w'.cell? ⟨(ad.add (i * 10)).block, (ad.add (i * 10)).off + 1, none⟩ = some (.string y.f1) ∧ w'.cell? ⟨(ad.add (i * 10)).block, (ad.add (i * 10)).off + 2, none⟩ = some (.int .i64 y.f2) ∧ w'.cell? ⟨(ad.add (i * 10)).block, (ad.add (i * 10)).off + 3, none⟩ = some (.slice B3 y.f3.length d3) ∧ w'.cell? ⟨(ad.add (i * 10)).block, (ad.add (i * 10)).off + 4, none⟩ = some (.slice B4 y.f4.length d4) ∧ w'.cell? ⟨(ad.add (i * 10)).block, (ad.add (i * 10)).off + 5, none⟩ = some (.slice B5 y.f5.length d5) ∧ w'.cell? ⟨(ad.add (i * 10)).block, (ad.add (i * 10)).off + 6, none⟩ = some (.string y.f6) ∧ w'.cell? ⟨(ad.add (i * 10)).block, (ad.add (i * 10)).off + 7, none⟩ = some (.string y.f7) ∧ w'.cell? ⟨(ad.add (i * 10)).block, (ad.add (i * 10)).off + 8, none⟩ = some (.string y.f8) ∧ w'.cell? ⟨(ad.add (i * 10)).block, (ad.add (i * 10)).off + 9, none⟩ = some (.slice B9 y.f9.length d9)) (simp [*, World.cell?_setCell_far]) (first | ((go_at_call 96; refine (js96 HD.out cm sn _ (hJ.out.calm (drewB _)) hXo.out hBo hO.out (HD.out.keep X _ _ hDx.out (Fr.of_below (drewB _))) (by omega) (by have := hb1.out; simp only [List.length_append] at this ⊢; omega)).mono ?_; rintro e w3 ⟨rfl, hJ3, hO3, hF3, hD3⟩; replace hF3 := undrewF hF3; have hn3 := hF3.heap hn.out (fun e => e.2 (.inr rfl)); have n4 := cell_at hn3 4; simp at n4; have hFw3 := Aside0.mk (hF.out.trans hF3 (fun k _ e => ⟨e.1, fun x => e.2 (.inl x)⟩)); obtain ⟨q0, q1, q2, q3, q4, q5, q6, q7, q8, q9⟩ := kc0.out.below (bel_fr hb0.out hFw3.out (fun k hk => by have := hk.1; omega)); dsimp only at q0 q1 q2 q3 q4 q5 q6 q7 q8 q9; replace hJ3 := Aside0.mk hJ3; replace hO3 := Aside0.mk hO3; replace hD3 := Aside0.mk hD3; replace hn3 := Aside0.mk hn3; clear hF3)) | ((go_at_call 39; refine (ih.out y hyk.out ⟨B3, d3, B4, d4, B5, d5, B9, d9⟩ _ _ w3 hNq.out (bel_fr hb0.out hFw3.out (fun k hk => by have := hk.1; omega)) hJ3.out hD3.out (by have := hb1.out; simp only [List.length_append] at this ⊢; omega)).mono ?_; rintro e w4 ⟨rfl, hw4, hD4⟩; have hO4 := hw4.2.heap hO3.out (fun e => e.2 (.inr rfl)); have hn4 := hw4.2.heap hn3.out (fun e => e.2 (.inl (.inr rfl))); have hF4 := Aside0.mk (hFw3.out.trans hw4.2 (fun k _ e => ⟨e.1, fun x => e.2 (.inl (.inl x))⟩)); have hJ4 : Aside0 (JS B (fun k => (X k ∨ k = nd) ∨ k = ob) b sc (xs ++ ([123] ++ jm dec f names kids (i + 1))) w4) := Aside0.mk (by have := hw4.1; rw [hjn.out]; simpa [List.append_assoc] using this); have n4 := cell_at hn4 4; simp at n4; obtain ⟨r0, r1, r2, r3, r4, r5, r6, r7, r8, r9⟩ := kc0.out.below (bel_fr hb0.out hF4.out (fun k hk => by have := hk.1; omega)); dsimp only at r0 r1 r2 r3 r4 r5 r6 r7 r8 r9; replace hO4 : Aside0 (w4.heap[ob]? = some (.cells #[.pointer (some ⟨b, 0, none⟩), .bool (!(i + 1 == 0)), .pointer (some ⟨sc, 0, none⟩)] 200 (0, 0))) := Aside0.mk (by simpa using hO4); replace hn4 := Aside0.mk hn4; replace hD4 := Aside0.mk hD4; clear hw4)))
      all_goals
        go_wp2_with fail
        go_roundg (names.length - (i + 1))
        case rel => exact ⟨i + 1, by push_cast; rfl, by omega, hJ4, hO4, hn4, hF4, hD4⟩
        case measure => omega
    · have hi1 : ((i : Int) < (names.length : Int)) = False := eq_false (by omega)
      obtain rfl : i = names.length := by omega
      have hc := cell_at hO.out 0
      simp at hc
      go_wp2_with fail
      obtain ⟨v, zs, h1, h2, h3, hJJ⟩ := hJ.out.out
      refine (jclose (v1 := .bool true) (v2 := .pointer (some ⟨sc, 0, none⟩)) wr hJJ hc (by have := hl.out; simp only [List.length_append, List.length_cons, List.length_nil] at this ⊢; omega)).mono ?_
      rintro e w4 ⟨rfl, hw4⟩
      have hws := hJ.out.wrote h1 h2 h3 hw4
      have hWS : Aside0 (WrS B X b sc (xs ++ ([123] ++ jm dec f names kids names.length ++ [125])) w w4) := .mk ⟨by have := hws.1.less (X' := X) (fun k hk => .inl (.inl hk)); simpa [List.append_assoc] using this, hF.out.trans hws.2 (fun k _ e => ⟨e.1, fun x => e.2 (.inl (.inl x))⟩)⟩
      have hD4 := Aside0.mk (HD.out.keep _ _ _ hDx.out hws.2)
      clear hws hw4
      go_wp2
      refine bodyPost_end (results_none rfl _ _ _) rfl ?_
      exact ⟨rfl, hWS.out, hD4.out⟩
set_option maxHeartbeats 8000000 in
set_option maxRecDepth 100000 in
theorem inj8 {dec : List Int → Int × Nat} {D : World → Prop} {B b sc : Nat} {f : S28 → List Int} (HD : DD dec D B) (w0 : World) (hB0 : w0.heap.size ≤ B) (t it kn vn : ByteArray) (num : Int) (names : List ByteArray) (kids : List S28) (fl : List Bool) (at' : List S45)
    (ih : ∀ y ∈ kids, InJ D B b sc w0 y (f y)) : InJ D B b sc w0 ⟨8, t, num, names, kids, fl, it, kn, vn, at'⟩ ([91] ++ je f kids kids.length ++ [93]) := by
  intro p X xs w hN hb0 h hD hl
  have hl1 : xs.length + 30 ≤ 140737488355328 := by simp at hl; omega
  obtain ⟨A3, c3, A4, c4, A5, c5, A9, c9⟩ := p
  obtain ⟨n5, hn5⟩ : ∃ n5, fl.length = n5 := ⟨_, rfl⟩
  obtain ⟨n9, hn9⟩ : ∃ n9, at'.length = n9 := ⟨_, rfl⟩
  have hb := below_alloc (below_alloc (Below.refl w.heap.size w) (.cells #[.pointer (some ⟨b, 0, none⟩), .pointer (some ⟨sc, 0, none⟩)] 88)) (.cells #[.int .i64 8, .string t, .int .i64 num, .slice A3 names.length c3, .slice A4 kids.length c4, .slice A5 n5 c5, .string it, .string kn, .string vn, .slice A9 n9 c9] 28)
  have hnd := heap_new (w.alloc (.cells #[.pointer (some ⟨b, 0, none⟩), .pointer (some ⟨sc, 0, none⟩)] 88)) (.cells #[.int .i64 8, .string t, .int .i64 num, .slice A3 names.length c3, .slice A4 kids.length c4, .slice A5 n5 c5, .string it, .string kn, .string vn, .slice A9 n9 c9] 28)
  have hsz : (w.alloc (.cells #[.pointer (some ⟨b, 0, none⟩), .pointer (some ⟨sc, 0, none⟩)] 88)).heap.size = w.heap.size + 1 := by simp
  rw [hsz] at hnd
  have hJ1 := h.also hb (g := w.heap.size + 1) (by omega) (by simp)
  have hBw := h.leB
  have hB1 := bel_fr hb0 (Fr.of_below (S := fun _ => False) hb) (fun _ h => h.elim)
  obtain ⟨nd, hndq⟩ : ∃ nd, w.heap.size + 1 = nd := ⟨_, rfl⟩
  have hF1 := Aside0.mk (Fr.of_below (S := fun k => B ≤ k ∧ ¬ X k) hb)
  have hD1 := Aside0.mk (HD.keep X _ _ hD hF1.out)
  have hXnd : Aside0 (¬ X nd) := ⟨fun e => by have := h.low _ e; omega⟩
  have hBn : B ≤ nd := by omega
  replace hndq := Aside0.mk hndq
  replace h := Aside0.mk h; replace hD := Aside0.mk hD; replace hl := Aside0.mk hl; replace hN := Aside0.mk hN; replace hb0 := Aside0.mk hb0; replace hb := Aside0.mk hb; replace hB1 := Aside0.mk hB1; replace ih := Aside0.mk ih; replace hJ1 := Aside0.mk hJ1; replace HD := Aside0.mk HD
  unfold NV
  dsimp only
  rw [hn5, hn9]
  go_enter Tryz.func39, Tryz.ntmps39
  go_wp2_with fail
  generalize (w.alloc (.cells #[.pointer (some ⟨b, 0, none⟩), .pointer (some ⟨sc, 0, none⟩)] 88)).alloc (.cells #[.int .i64 8, .string t, .int .i64 num, .slice A3 names.length c3, .slice A4 kids.length c4, .slice A5 n5 c5, .string it, .string kn, .string vn, .slice A9 n9 c9] 28) = w1 at *
  rw [hndq.out] at hnd hJ1 ⊢
  replace hnd := Aside0.mk hnd
  clear hsz
  obtain ⟨v, zs, h1, h2, h3, hJ⟩ := hJ1.out.out
  refine (jarr w1 hJ (by omega)).mono ?_
  rintro e w2 ⟨ob, rfl, hw2, hob, hO2, hob1⟩
  have hws := hJ1.out.wrote h1 h2 h3 hw2
  have hXo : Aside0 (¬ (X ob ∨ ob = nd)) := ⟨fun e => by have := hJ1.out.low _ e; omega⟩
  have hBo : B ≤ ob := by have := hJ1.out.leB; omega
  have hn2 := hws.2.heap hnd.out (fun e => e.2 (.inr rfl))
  have hJ2 := Aside0.mk (hws.1.plus hO2 (by decide) (by decide) (by decide))
  have hD2 := Aside0.mk (HD.out.keep _ _ _ hD1.out hws.2)
  have hF2 := Aside0.mk (hF1.out.trans hws.2 (fun k _ e => ⟨e.1, fun x => e.2 (.inl x)⟩))
  clear hw2 hws h1 h2 h3 hJ v zs
  have m4 := cell_at hn2 4
  simp at m4
  replace hn2 := Aside0.mk hn2; replace hO2 := Aside0.mk hO2
  have hmx := Aside0.mk (Kd.C_max hN.out.h4)
  go_wp2_with fail
  go_loopg [100] kids.length (fun q v100 w' => ∃ i : Nat, v100 = .int .i64 (i : Int) ∧ q + i = kids.length ∧ Aside0 (JS B (fun k => (X k ∨ k = nd) ∨ k = ob) b sc (xs ++ ([91] ++ je f kids i)) w') ∧
      Aside0 (w'.heap[ob]? = some (.cells #[.pointer (some ⟨b, 0, none⟩), .bool (!(i == 0)), .pointer (some ⟨sc, 0, none⟩)] 203 (0, 0))) ∧ Aside0 (w'.heap[nd]? = some (.cells #[.int .i64 8, .string t, .int .i64 num, .slice A3 names.length c3, .slice A4 kids.length c4, .slice A5 n5 c5, .string it, .string kn, .string vn, .slice A9 n9 c9] 28 (0, 0))) ∧ Aside0 (Fr (fun k => B ≤ k ∧ ¬ X k) w w') ∧ Aside0 (D w'))
  case atStart => exact ⟨0, rfl, by omega, .mk (by simpa [je] using hJ2.out), hO2, hn2, hF2, hD2⟩
  case round =>
    clear m4 hJ2 hO2 hn2 hF2 hD2
    obtain ⟨i, rfl, hq, hJ, hO, hn, hF, hDx⟩ := hrel
    have hi0 : ((0 : Int) ≤ (i : Int)) = True := eq_true (by omega)
    by_cases hi : i < kids.length
    · have hi1 : ((i : Int) < (kids.length : Int)) = True := eq_true (by omega)
      have e6 : IntKind.i64.wrap ((i : Int) + 1) = (i : Int) + 1 := w64i _ (by omega) (by have := hmx.out; omega)
      have hBx := Aside0.mk (bel_fr hb0.out hF.out (fun k hk => by have := hk.1; omega))
      obtain ⟨ad, qy, hA, kc0, hNq⟩ := hN.out.kid i hi
      dsimp only at hA
      subst hA
      dsimp only at kc0 hNq
      have hyk : kids.getD i z28 ∈ kids := getD_mem z28 hi
      have hbnd := hl.out
      have hm1 := je_mono f kids (show i + 1 ≤ kids.length by omega)
      have hjn : je f kids (i + 1) = je f kids i ++ ((if i = 0 then [] else [44]) ++ f (kids.getD i z28)) := rfl
      have hcme : (if i = 0 then ([] : List Int) else [44]) = (if (!(i == 0)) = true then [44] else []) := by by_cases h0 : i = 0 <;> simp [h0]
      rw [hcme] at hjn
      obtain ⟨y, hy⟩ : ∃ y, kids.getD i z28 = y := ⟨_, rfl⟩
      obtain ⟨cm, hcm⟩ : ∃ cm, (!(i == 0)) = cm := ⟨_, rfl⟩
      rw [hy] at kc0 hNq hyk hjn
      rw [hcm] at hjn hO
      obtain ⟨B3, d3, B4, d4, B5, d5, B9, d9⟩ := qy
      have hb1 : Aside0 ((xs ++ ([91] ++ je f kids i) ++ ((if cm then [44] else []) ++ f y)).length + 30 ≤ 140737488355328) := .mk (by rw [hjn] at hm1; simp only [List.length_append] at hm1 hbnd ⊢; simp only [List.length_cons, List.length_nil] at hm1 hbnd ⊢; omega)
      replace hjn := Aside0.mk hjn; replace hNq := Aside0.mk hNq; replace hyk := Aside0.mk hyk; replace hy := Aside0.mk hy
      clear hcm hcme hm1 hbnd
      obtain ⟨y0, y1, y2, y3, y4, y5, y6, y7, y8, y9⟩ := kc0.below hBx.out
      dsimp only at y0 y1 y2 y3 y4 y5 y6 y7 y8 y9
      have hbk := below_alloc (Below.refl wr.heap.size wr) (.cells #[.int .i64 y.f0, .string y.f1, .int .i64 y.f2, .slice B3 y.f3.length d3, .slice B4 y.f4.length d4, .slice B5 y.f5.length d5, .string y.f6, .string y.f7, .string y.f8, .slice B9 y.f9.length d9] 28)
      have hka := heap_new wr (.cells #[.int .i64 y.f0, .string y.f1, .int .i64 y.f2, .slice B3 y.f3.length d3, .slice B4 y.f4.length d4, .slice B5 y.f5.length d5, .string y.f6, .string y.f7, .string y.f8, .slice B9 y.f9.length d9] 28)
      have hJk := Aside0.mk (hJ.out.also hbk (Nat.le_refl _) (by simp))
      have hOk := Aside0.mk (heap_below hbk hO.out)
      have hnk := Aside0.mk (heap_below hbk hn.out)
      have hFk := Aside0.mk (hF.out.trans (Fr.of_below (S := fun _ => False) hbk) (fun _ _ h => h.elim))
      have hDk := Aside0.mk (HD.out.keep X _ _ hDx.out (Fr.of_below hbk))
      have hXk : Aside0 (¬ ((X ob ∨ ob = nd) ∨ ob = wr.heap.size)) := .mk (fun e => by rcases e with e | e; exact hXo.out e; have := lt_of hO.out; omega)
      replace hka := Aside0.mk hka
      clear hbk kc0
      go_wp2_with fail
      generalize wr.alloc (.cells #[.int .i64 y.f0, .string y.f1, .int .i64 y.f2, .slice B3 y.f3.length d3, .slice B4 y.f4.length d4, .slice B5 y.f5.length d5, .string y.f6, .string y.f7, .string y.f8, .slice B9 y.f9.length d9] 28) = w5 at *
      obtain ⟨na, hna⟩ : ∃ na, wr.heap.size = na := ⟨_, rfl⟩
      rw [hna] at hka hJk hXk ⊢
      replace hna := Aside0.mk hna
      clear y0 y1 y2 y3 y4 y5 y6 y7 y8 y9
      have y0 := cell_at hka.out 0; have y1 := cell_at hka.out 1; have y2 := cell_at hka.out 2; have y3 := cell_at hka.out 3; have y4 := cell_at hka.out 4; have y5 := cell_at hka.out 5; have y6 := cell_at hka.out 6; have y7 := cell_at hka.out 7; have y8 := cell_at hka.out 8; have y9 := cell_at hka.out 9
      simp at y0 y1 y2 y3 y4 y5 y6 y7 y8 y9
      have hJk2 : Aside0 (JS B (fun k => ((X k ∨ k = nd) ∨ k = na) ∨ k = ob) b sc (xs ++ ([91] ++ je f kids i)) w5) := .mk (hJk.out.less (fun k hk => by rcases hk with ((e | e) | e) | e; exact .inl (.inl (.inl e)); exact .inl (.inl (.inr e)); exact .inr e; exact .inl (.inr e)))
      go_region_held3 (fun w' => w'.cell? ⟨na, 0, none⟩ = some (.int .i64 y.f0) ∧ w'.cell? ⟨na, 1, none⟩ = some (.string y.f1) ∧ w'.cell? ⟨na, 2, none⟩ = some (.int .i64 y.f2) ∧ w'.cell? ⟨na, 3, none⟩ = some (.slice B3 y.f3.length d3) ∧ w'.cell? ⟨na, 4, none⟩ = some (.slice B4 y.f4.length d4) ∧ w'.cell? ⟨na, 5, none⟩ = some (.slice B5 y.f5.length d5) ∧ w'.cell? ⟨na, 6, none⟩ = some (.string y.f6) ∧ w'.cell? ⟨na, 7, none⟩ = some (.string y.f7) ∧ w'.cell? ⟨na, 8, none⟩ = some (.string y.f8) ∧ w'.cell? ⟨na, 9, none⟩ = some (.slice B9 y.f9.length d9)) (simp [*, World.cell?_setCell_far]) (first | ((go_at_call 99; refine (js99 (X := fun k => (X k ∨ k = nd) ∨ k = na) HD.out cm _ (hJk2.out.calm (drewB _)) (by rintro ((e | e) | e); exact hXo.out (.inl e); exact hXo.out (.inr e); exact hXk.out (.inr e)) hBo hOk.out (HD.out.keep X _ _ hDk.out (Fr.of_below (drewB _))) (by have := hb1.out; simp only [List.length_append] at this ⊢; omega)).mono ?_; rintro e w3 ⟨rfl, hJ3, hO3, hF3, hD3⟩; replace hF3 := undrewF hF3; have hn3 := hF3.heap hnk.out (fun e => e.2 (.inl (.inr rfl))); have hka3 := hF3.heap hka.out (fun e => e.2 (.inr rfl)); have hFw3 := Aside0.mk (hFk.out.trans hF3 (fun k _ e => ⟨e.1, fun x => e.2 (.inl (.inl x))⟩)); have q0 := cell_at hka3 0; have q1 := cell_at hka3 1; have q2 := cell_at hka3 2; have q3 := cell_at hka3 3; have q4 := cell_at hka3 4; have q5 := cell_at hka3 5; have q6 := cell_at hka3 6; have q7 := cell_at hka3 7; have q8 := cell_at hka3 8; have q9 := cell_at hka3 9; simp at q0 q1 q2 q3 q4 q5 q6 q7 q8 q9; replace hJ3 := Aside0.mk hJ3; replace hO3 := Aside0.mk hO3; replace hD3 := Aside0.mk hD3; replace hn3 := Aside0.mk hn3; replace hka3 := Aside0.mk hka3; clear hF3)) | ((go_at_call 39; refine (ih.out y hyk.out ⟨B3, d3, B4, d4, B5, d5, B9, d9⟩ _ _ w3 hNq.out (bel_fr hb0.out hFw3.out (fun k hk => by have := hk.1; omega)) hJ3.out hD3.out (by have := hb1.out; simp only [List.length_append] at this ⊢; omega)).mono ?_; rintro e w4 ⟨rfl, hw4, hD4⟩; have hO4 := hw4.2.heap hO3.out (fun e => e.2 (.inr rfl)); have hn4 := hw4.2.heap hn3.out (fun e => e.2 (.inl (.inl (.inr rfl)))); have hka4 := hw4.2.heap hka3.out (fun e => e.2 (.inl (.inr rfl))); have hF4 := Aside0.mk (hFw3.out.trans hw4.2 (fun k _ e => ⟨e.1, fun x => e.2 (.inl (.inl (.inl x)))⟩)); have hJ4 : Aside0 (JS B (fun k => (X k ∨ k = nd) ∨ k = ob) b sc (xs ++ ([91] ++ je f kids (i + 1))) w4) := Aside0.mk (by have := hw4.1.less (X' := fun k => (X k ∨ k = nd) ∨ k = ob) (fun k hk => by rcases hk with (e | e) | e; exact .inl (.inl (.inl e)); exact .inl (.inl (.inr e)); exact .inr e); rw [hjn.out]; simpa [List.append_assoc] using this); have r0 := cell_at hka4 0; have r1 := cell_at hka4 1; have r2 := cell_at hka4 2; have r3 := cell_at hka4 3; have r4 := cell_at hka4 4; have r5 := cell_at hka4 5; have r6 := cell_at hka4 6; have r7 := cell_at hka4 7; have r8 := cell_at hka4 8; have r9 := cell_at hka4 9; simp at r0 r1 r2 r3 r4 r5 r6 r7 r8 r9; replace hO4 : Aside0 (w4.heap[ob]? = some (.cells #[.pointer (some ⟨b, 0, none⟩), .bool (!(i + 1 == 0)), .pointer (some ⟨sc, 0, none⟩)] 203 (0, 0))) := Aside0.mk (by simpa using hO4); replace hn4 := Aside0.mk hn4; replace hD4 := Aside0.mk hD4; clear hw4)))
      all_goals
        go_wp2_with fail
        go_roundg (kids.length - (i + 1))
        case rel => exact ⟨i + 1, by push_cast; rfl, by omega, hJ4, hO4, hn4, hF4, hD4⟩
        case measure => omega
    · have hi1 : ((i : Int) < (kids.length : Int)) = False := eq_false (by omega)
      obtain rfl : i = kids.length := by omega
      have hc := cell_at hO.out 0
      simp at hc
      go_wp2_with fail
      obtain ⟨v, zs, h1, h2, h3, hJJ⟩ := hJ.out.out
      refine (jcloseA wr hJJ hc (by have := hl.out; simp only [List.length_append, List.length_cons, List.length_nil] at this ⊢; omega)).mono ?_
      rintro e w4 ⟨rfl, hw4⟩
      have hws := hJ.out.wrote h1 h2 h3 hw4
      have hWS : Aside0 (WrS B X b sc (xs ++ ([91] ++ je f kids kids.length ++ [93])) w w4) := .mk ⟨by have := hws.1.less (X' := X) (fun k hk => .inl (.inl hk)); simpa [List.append_assoc] using this, hF.out.trans hws.2 (fun k _ e => ⟨e.1, fun x => e.2 (.inl (.inl x))⟩)⟩
      have hD4 := Aside0.mk (HD.out.keep _ _ _ hDx.out hws.2)
      clear hws hw4
      go_wp2
      refine bodyPost_end (results_none rfl _ _ _) rfl ?_
      exact ⟨rfl, hWS.out, hD4.out⟩
end H
end Go.Proofs.YtkihaebaccdjdaaGreatDoor
