import Derived.Test.YtkihaebaccdjdaaGreatDoorJ6
set_option linter.unusedVariables false
set_option linter.unusedSimpArgs false
namespace Go.Proofs.YtkihaebaccdjdaaGreatDoor
open Go.RowKit Go.Proofs.YtkihaebaccdjdaaGreatDoorW.PrintWords Go.Proofs.YtkihaebaccdjdaaGreatDoorW.PrintLast Go.Proofs.YtkihaebaccdjdaaGreatDoorW.PrintMore
open PX
namespace H
/-! ### smjson.escapeStringBytes -/
def hexD (d : Int) : Int := if d < 10 then 48 + d else 87 + d
def escB (c : Int) : List Int := if c = 92 ∨ c = 34 then [92, c] else if c = 10 then [92, 110] else if c = 13 then [92, 114] else if c = 9 then [92, 116] else [92, 117, 48, 48, hexD (c / 16), hexD (c % 16)]
def safeC (c : Int) : Prop := 32 ≤ c ∧ c ≠ 34 ∧ c ≠ 92
instance (c : Int) : Decidable (safeC c) := inferInstanceAs (Decidable (_ ∧ _ ∧ _))
/-- What stands for the bytes l (dec: the sign at their beginning, and its size). -/
def esc (dec : List Int → Int × Nat) : Nat → List Int → List Int
 | 0, _ => []
 | _ + 1, [] => []
 | k + 1, c :: l => if c < 128 then (if safeC c then c :: esc dec k l else escB c ++ esc dec k l)
   else if (dec (c :: l)).1 = 65533 ∧ (dec (c :: l)).2 = 1 then [92, 117, 102, 102, 102, 100] ++ esc dec k ((c :: l).drop (dec (c :: l)).2)
   else if (dec (c :: l)).1 = 8232 ∨ (dec (c :: l)).1 = 8233 then [92, 117, 50, 48, 50, hexD ((dec (c :: l)).1 % 16)] ++ esc dec k ((c :: l).drop (dec (c :: l)).2)
   else (c :: l).take (dec (c :: l)).2 ++ esc dec k ((c :: l).drop (dec (c :: l)).2)
theorem esc_nil (dec : List Int → Int × Nat) (k : Nat) : esc dec k [] = [] := by cases k <;> rfl
/-- What the decoder is asked for. -/
structure Dec (dec : List Int → Int × Nat) (D : World → Prop) (g n c : Nat) (zs : List Int) : Prop where
 call : ∀ (w : World) (i : Nat), i < n → BAt w g zs → D w → Calls Tryz.prog 199 #[.slice (some ⟨g, i, none⟩) (n - i) (c - i)] w fun e w' => e = .returned (.tuple #[.int .i32 (dec ((zs.take n).drop i)).1, .int .i64 ((dec ((zs.take n).drop i)).2 : Nat)]) ∧ Below w.heap.size w w'
 pos : ∀ i, i < n → 1 ≤ (dec ((zs.take n).drop i)).2 ∧ (dec ((zs.take n).drop i)).2 ≤ n - i
 keep : ∀ w w', D w → Below w.heap.size w w' → D w'
structure ES (D : World → Prop) (B b g : Nat) (X : Nat → Prop) (zs xs : List Int) (w0 w : World) : Prop where
 jb : JB 150 B X b xs w
 bt : BAt w g zs
 d : D w
 fr : Fr (fun k => B ≤ k ∧ ¬ X k) w0 w
theorem ES.wrote {D : World → Prop} {B b g : Nat} {X : Nat → Prop} {zs xs ys : List Int} {w0 w w' : World} (h : ES D B b g X zs xs w0 w) (hX : X g) (hD : ∀ w w', D w → Fr (fun k => B ≤ k ∧ ¬ X k) w w' → D w') (hw : Wrote 150 B X b ys w w') : ES D B b g X zs ys w0 w' :=
 ⟨hw.1, h.bt.fr hw.2 (fun e => e.2 hX), hD _ _ h.d hw.2, h.fr.trans hw.2 (fun _ _ h => h)⟩
theorem ES.calm {D : World → Prop} {B b g : Nat} {X : Nat → Prop} {zs xs : List Int} {w0 w w' : World} (h : ES D B b g X zs xs w0 w) (hD : ∀ w w', D w → Fr (fun k => B ≤ k ∧ ¬ X k) w w' → D w') (hb : Below w.heap.size w w') : ES D B b g X zs xs w0 w' :=
 ⟨h.jb.calm hb, h.bt.below hb, hD _ _ h.d (Fr.of_below hb), h.fr.trans (Fr.of_below (S := fun _ => False) hb) (fun _ _ h => h.elim)⟩
theorem seg_reads {w : World} {g : Nat} {zs : List Int} (h : BAt w g zs) (a k : Nat) (hk : a + k ≤ zs.length) (hl : zs.length ≤ 9223372036854775807) : ReadsInt w .u8 (some ⟨g, a, none⟩) k ((zs.drop a).take k) := by
 have hlen : ((zs.drop a).take k).length = k := by simp; omega
 exact ⟨hlen, by omega, fun _ => ⟨_, rfl, fun j hj => cut_cell h a k j hk (by omega)⟩⟩
theorem take_drop_take (zs : List Int) (n a k : Nat) (h : a + k ≤ n) : ((zs.take n).drop a).take k = (zs.drop a).take k := by
 rw [List.drop_take, List.take_take, Nat.min_eq_left (by omega)]
theorem seg_snoc (ss : List Int) (a i : Nat) (h : a ≤ i) (hi : i < ss.length) : (ss.drop a).take (i - a) ++ [ss.getD i 0] = (ss.drop a).take (i + 1 - a) := by
 have e : i + 1 - a = (i - a) + 1 := by omega
 rw [e, List.take_add_one, List.getElem?_drop, show a + (i - a) = i by omega, List.getElem?_eq_getElem hi, List.getD_eq_getElem?_getD, List.getElem?_eq_getElem hi]
 rfl
theorem seg_app (ss : List Int) (a i k : Nat) (h : a ≤ i) : (ss.drop a).take (i - a) ++ (ss.drop i).take k = (ss.drop a).take (i + k - a) := by
 have e : i + k - a = (i - a) + k := by omega
 rw [e, List.take_add, List.drop_drop, show a + (i - a) = i by omega]
theorem and15 (c : Int) (h0 : 0 ≤ c) (h1 : c ≤ 255) : Go.bits .and .u8 c 15 = c % 16 := by
 have : ∀ n : Nat, n < 256 → Go.bits .and .u8 (n : Int) 15 = (n : Int) % 16 := by decide +kernel
 obtain ⟨n, rfl⟩ := Int.eq_ofNat_of_zero_le h0
 exact this n (by omega)
theorem hexD_bt (n : Int) (h0 : 0 ≤ n) (h1 : n < 16) : bt (⟨#[48, 49, 50, 51, 52, 53, 54, 55, 56, 57, 97, 98, 99, 100, 101, 102]⟩ : ByteArray) n = hexD n := by
 have : ∀ m : Nat, m < 16 → bt (⟨#[48, 49, 50, 51, 52, 53, 54, 55, 56, 57, 97, 98, 99, 100, 101, 102]⟩ : ByteArray) (m : Int) = hexD (m : Int) := by decide +kernel
 obtain ⟨m, rfl⟩ := Int.eq_ofNat_of_zero_le h0
 exact this m (by omega)
theorem esc_cons (dec : List Int → Int × Nat) (k : Nat) (ss : List Int) (i : Nat) (hi : i < ss.length) (hk : 0 < k) :
 ∃ k', k = k' + 1 ∧ ss.drop i = ss.getD i 0 :: ss.drop (i + 1) := by
 refine ⟨k - 1, by omega, ?_⟩
 rw [List.drop_eq_getElem_cons hi, List.getD_eq_getElem?_getD, List.getElem?_eq_getElem hi]
 rfl
set_option maxHeartbeats 40000000 in
set_option maxRecDepth 100000 in
theorem esc_call {dec : List Int → Int × Nat} {D : World → Prop} {B b g n c : Nat} {X : Nat → Prop} {zs xs : List Int} (w : World) (hd : Dec dec D g n c zs) (hDf : ∀ w w', D w → Fr (fun k => B ≤ k ∧ ¬ X k) w w' → D w')
 (h : JB 150 B X b xs w) (hB : BAt w g zs) (hX : X g) (hD : D w) (hn : n ≤ zs.length) (hc : n ≤ c) (hz : zs.length ≤ 9223372036854775807) (hrng : ∀ x ∈ zs, 0 ≤ x ∧ x < 256) (hl : (xs ++ [34] ++ esc dec n (zs.take n) ++ [34]).length ≤ 140737488355328) :
 Calls Tryz.prog 161 #[.pointer (some ⟨b, 0, none⟩), .slice (some ⟨g, 0, none⟩) n c] w fun e w' => e = .returned (.tuple #[]) ∧ Wrote 150 B X b (xs ++ [34] ++ esc dec n (zs.take n) ++ [34]) w w' ∧ D w' := by
 have hE0 : Aside0 (ES D B b g X zs xs w w) := .mk ⟨h, hB, hD, Fr.refl _ _⟩
 obtain ⟨tot, htot⟩ : ∃ tot, xs ++ [34] ++ esc dec n (zs.take n) = tot := ⟨_, rfl⟩
 rw [htot] at hl ⊢
 have hl1 : tot.length + 1 ≤ 140737488355328 := by simpa using hl
 obtain ⟨ss, hss⟩ : ∃ ss, zs.take n = ss := ⟨_, rfl⟩
 have hsl : ss.length = n := by rw [← hss]; simp; omega
 rw [hss] at htot
 have hx1 : xs.length + 1 ≤ tot.length := by rw [← htot]; simp
 replace hd := Aside0.mk hd; replace hDf := Aside0.mk hDf; replace hrng := Aside0.mk hrng; replace htot := Aside0.mk htot; replace hss := Aside0.mk hss; replace hsl := Aside0.mk hsl; replace hl1 := Aside0.mk hl1; replace hx1 := Aside0.mk hx1; replace hz := Aside0.mk hz; replace hn := Aside0.mk hn; replace hX := Aside0.mk hX
 clear h hB hD hl
 go_enter Tryz.func161, Tryz.ntmps161
 go_wp2_with fail
 refine (jwb 34 w hE0.out.jb (by have := hx1.out; have := hl1.out; omega)).mono ?_
 rintro e w1 ⟨rfl, hw1⟩
 have hE1 := Aside0.mk (hE0.out.wrote hX.out hDf.out hw1)
 have hT1 : Aside0 ((xs ++ [34]) ++ (ss.drop 0).take (0 - 0) ++ esc dec n (ss.drop 0) = tot) := .mk (by simpa using htot.out)
 clear hw1 hE0
 go_wp2_with fail
 go_loopg [4, 5] n (fun q v4 v5 w' => ∃ (st i k : Nat) (ys : List Int), v4 = .int .i64 st ∧ v5 = .int .i64 i ∧ st ≤ i ∧ i ≤ n ∧ Aside0 (q = n - i) ∧ Aside0 (n - i ≤ k) ∧ Aside0 (ES D B b g X zs ys w w') ∧ Aside0 (ys ++ (ss.drop st).take (i - st) ++ esc dec k (ss.drop i) = tot))
 case atStart => exact ⟨0, 0, n, xs ++ [34], rfl, rfl, Nat.le_refl _, Nat.zero_le _, ⟨by omega⟩, ⟨by omega⟩, hE1, hT1⟩
 case round =>
  clear hE1 hT1
  obtain ⟨st, i, k, ys, rfl, rfl, hsi, hin, hq, hk, hE, hT⟩ := hrel
  have hn63 : n ≤ 9223372036854775807 := by have := hn.out; have := hz.out; omega
  by_cases hlt : i < n
  ·have hcell := hE.out.bt.cell i (by have := hn.out; omega)
   have hget : zs.getD i 0 = ss.getD i 0 := by
    rw [← hss.out, List.getD_eq_getElem?_getD, List.getD_eq_getElem?_getD, List.getElem?_take, if_pos hlt]
   rw [hget] at hcell
   obtain ⟨k', rfl, hcons⟩ := esc_cons dec k ss i (by have := hsl.out; omega) (by have := hk.out; omega)
   have hr := hrng.out (zs.getD i 0) (by rw [List.getD_eq_getElem?_getD, List.getElem?_eq_getElem (by have := hn.out; omega)]; exact List.getElem_mem _)
   rw [hget] at hr
   have hsnoc := seg_snoc ss st i hsi (by have := hsl.out; omega)
   obtain ⟨x, hx⟩ : ∃ x, ss.getD i 0 = x := ⟨_, rfl⟩
   rw [hx] at hcell hcons hr hsnoc
   have hT2 := hT.out
   rw [hcons] at hT2
   replace hcons := Aside0.mk hcons; replace hsnoc := Aside0.mk hsnoc; replace hx := Aside0.mk hx; replace hT2 := Aside0.mk hT2
   clear hT hget
   by_cases h128 : x < 128
   ·by_cases hsf : safeC x
    ·have hsfc := smjson_safeSet.calls x true wr (by unfold smjson_safeSet.f; obtain ⟨q1, q2, q3⟩ := hsf; rw [if_pos (by omega), if_neg q2]; simp [q3])
     have hT3 : Aside0 (ys ++ (ss.drop st).take (i + 1 - st) ++ esc dec k' (ss.drop (i + 1)) = tot) := .mk (by
      have h := hT2.out
      rw [esc, if_pos h128, if_pos hsf] at h
      rw [← hsnoc.out, ← h]
      simp)
     replace hsfc := Aside0.mk hsfc
     go_wp2_with fail
     refine hsfc.out.mono ?_
     rintro e w2 ⟨rfl, hd2⟩
     have hE2 := Aside0.mk (hE.out.calm hDf.out hd2.below)
     clear hd2
     go_wp2_with fail
     go_roundg (n - (i + 1))
     case rel => exact ⟨st, i + 1, k', ys, rfl, by go_num, by omega, by omega, ⟨rfl⟩, ⟨by have := hk.out; omega⟩, hE2, hT3⟩
     case measure => have := hq.out; omega
    ·have hsfc := smjson_safeSet.calls x false wr (by
      unfold smjson_safeSet.f
      unfold safeC at hsf
      split
      ·split
       ·rfl
       ·have : x = 92 := by omega
        subst this; rfl
      ·rfl)
     have hT3 : Aside0 ((ys ++ (ss.drop st).take (i - st)) ++ escB x ++ esc dec k' (ss.drop (i + 1)) = tot) := .mk (by
      have h := hT2.out
      rw [esc, if_pos h128, if_neg hsf] at h
      rw [← h]
      simp)
     have hlen : Aside0 (ys.length + (i - st) + (escB x).length ≤ tot.length) := .mk (by
      have h := congrArg List.length hT3.out
      have := hsl.out
      simp at h
      omega)
     have hsegz : Aside0 ((zs.drop st).take (i - st) = (ss.drop st).take (i - st)) := .mk (by rw [← hss.out, take_drop_take _ _ _ _ (by omega)])
     replace hsfc := Aside0.mk hsfc
     clear hT2
     have hYl : Aside0 ((ys ++ (ss.drop st).take (i - st)).length = ys.length + (i - st)) := .mk (by
      have := hsl.out
      rw [List.length_append, List.length_take, List.length_drop]
      omega)
     by_cases h5 : x = 92 ∨ x = 34 ∨ x = 10 ∨ x = 13 ∨ x = 9
     ·have hlen2 : Aside0 (ys.length + (i - st) + 2 ≤ tot.length) := .mk (by
       have h := hlen.out
       rcases h5 with rfl | rfl | rfl | rfl | rfl
       all_goals exact h)
      rcases h5 with rfl | rfl | rfl | rfl | rfl
      all_goals
       go_wp2_with fail
       refine hsfc.out.mono ?_
       rintro e w2 ⟨rfl, hd2⟩
       have hE2 := Aside0.mk (hE.out.calm hDf.out hd2.below)
       clear hd2 hE
       rcases Nat.lt_or_ge st i with hst | hst
       case' inl =>
        have hrd := seg_reads hE2.out.bt st (i - st) (by have := hn.out; omega) hz.out
        rw [hsegz.out] at hrd
        replace hrd := Aside0.mk hrd
        go_wp2_with fail
        refine (jw (some ⟨g, st, none⟩) (i - st) _ _ w2 hE2.out.jb hrd.out (by have := hl1.out; have := hlen.out; omega)).mono ?_
        rintro e w3 ⟨rfl, hw3⟩
        have hE3 := Aside0.mk (hE2.out.wrote hX.out hDf.out hw3)
        clear hw3 hrd
        go_wp2_with fail
       case' inr =>
        obtain ⟨w3, hw3⟩ : ∃ w3, w3 = w2 := ⟨_, rfl⟩
        have hE3 : Aside0 (ES D B b g X zs (ys ++ (ss.drop st).take (i - st)) w w3) := .mk (by rw [hw3, show i - st = 0 by omega, List.take_zero, List.append_nil]; exact hE2.out)
        rw [← hw3]
        clear hw3
        go_wp2_with fail

       all_goals
        refine (jwb 92 w3 hE3.out.jb (by rw [hYl.out]; have := hl1.out; have := hlen2.out; omega)).mono ?_
        rintro e w4 ⟨rfl, hw4⟩
        have hE4 := Aside0.mk (hE3.out.wrote hX.out hDf.out hw4)
        clear hw4 hE3
        go_wp2_with fail
        refine (jwb _ w4 hE4.out.jb (by rw [List.length_append, hYl.out]; have := hl1.out; have := hlen2.out; show _ + 1 + 1 ≤ _; omega)).mono ?_
        rintro e w5 ⟨rfl, hw5⟩
        have hE5 := Aside0.mk (hE4.out.wrote hX.out hDf.out hw5)
        clear hw5 hE4
        go_wp2_with fail
        go_roundg (n - (i + 1))
        case rel => exact ⟨i + 1, i + 1, k', _, by go_num, by go_num, by omega, by omega, ⟨rfl⟩, ⟨by have := hk.out; omega⟩, hE5, ⟨by have h := hT3.out; simp [escB] at h ⊢; exact h⟩⟩
        case measure => have := hq.out; omega
     ·have hesc : Aside0 (escB x = [92, 117, 48, 48, hexD (x / 16), hexD (x % 16)]) := .mk (by unfold escB; rw [if_neg (by omega), if_neg (by omega), if_neg (by omega), if_neg (by omega)])
      have hlen2 : Aside0 (ys.length + (i - st) + 6 ≤ tot.length) := .mk (by
       have h := hlen.out
       rw [hesc.out] at h
       exact h)
      have hn92 : (x == 92) = false := beq_eq_false_iff_ne.2 (by omega)
      have hn34 : (x == 34) = false := beq_eq_false_iff_ne.2 (by omega)
      have hn10 : (x == 10) = false := beq_eq_false_iff_ne.2 (by omega)
      have hn13 : (x == 13) = false := beq_eq_false_iff_ne.2 (by omega)
      have hn9 : (x == 9) = false := beq_eq_false_iff_ne.2 (by omega)
      have hand := and15 x (by omega) (by omega)
      obtain ⟨j1, hj1⟩ : ∃ j, x / 16 = j := ⟨_, rfl⟩
      obtain ⟨j2, hj2⟩ : ∃ j, Go.bits .and .u8 x 15 = j := ⟨_, rfl⟩
      have p1 : 0 ≤ j1 := by omega
      have q1 : j1 < 16 := by omega
      have p2 : 0 ≤ j2 := by omega
      have q2 : j2 < 16 := by omega
      have hb1 := bt_at (⟨#[48, 49, 50, 51, 52, 53, 54, 55, 56, 57, 97, 98, 99, 100, 101, 102]⟩ : ByteArray) j1
      have hb2 := bt_at (⟨#[48, 49, 50, 51, 52, 53, 54, 55, 56, 57, 97, 98, 99, 100, 101, 102]⟩ : ByteArray) j2
      have hd1 : Aside0 (bt (⟨#[48, 49, 50, 51, 52, 53, 54, 55, 56, 57, 97, 98, 99, 100, 101, 102]⟩ : ByteArray) j1 = hexD (x / 16)) := .mk (by rw [hj1]; exact hexD_bt j1 p1 q1)
      have hd2' : Aside0 (bt (⟨#[48, 49, 50, 51, 52, 53, 54, 55, 56, 57, 97, 98, 99, 100, 101, 102]⟩ : ByteArray) j2 = hexD (x % 16)) := .mk (by rw [← hand, hj2]; exact hexD_bt j2 p2 q2)
      replace p1 := eq_true p1; replace q1 := eq_true q1; replace p2 := eq_true p2; replace q2 := eq_true q2
      clear hand
      go_wp2_with fail
      refine hsfc.out.mono ?_
      rintro e w2 ⟨rfl, hd2⟩
      have hE2 := Aside0.mk (hE.out.calm hDf.out hd2.below)
      clear hd2 hE
      rcases Nat.lt_or_ge st i with hst | hst
      case' inl =>
       have hrd := seg_reads hE2.out.bt st (i - st) (by have := hn.out; omega) hz.out
       rw [hsegz.out] at hrd
       replace hrd := Aside0.mk hrd
       go_wp2_with fail
       refine (jw (some ⟨g, st, none⟩) (i - st) _ _ w2 hE2.out.jb hrd.out (by have := hl1.out; have := hlen.out; omega)).mono ?_
       rintro e w3 ⟨rfl, hw3⟩
       have hE3 := Aside0.mk (hE2.out.wrote hX.out hDf.out hw3)
       clear hw3 hrd
       go_wp2_with fail
      case' inr =>
       obtain ⟨w3, hw3⟩ : ∃ w3, w3 = w2 := ⟨_, rfl⟩
       have hE3 : Aside0 (ES D B b g X zs (ys ++ (ss.drop st).take (i - st)) w w3) := .mk (by rw [hw3, show i - st = 0 by omega, List.take_zero, List.append_nil]; exact hE2.out)
       rw [← hw3]
       clear hw3
       go_wp2_with fail

      all_goals
       refine (jws ⟨#[92, 117, 48, 48]⟩ w3 hE3.out.jb (by rw [hYl.out]; have := hl1.out; have := hlen2.out; show _ + 4 ≤ _; omega)).mono ?_
       rintro e w4 ⟨rfl, hw4⟩
       have hE4 := Aside0.mk (hE3.out.wrote hX.out hDf.out hw4)
       clear hw4 hE3
       go_wp2_with fail
       refine (jwb _ w4 hE4.out.jb (by rw [List.length_append, hYl.out]; have := hl1.out; have := hlen2.out; show _ + 4 + 1 ≤ _; omega)).mono ?_
       rintro e w5 ⟨rfl, hw5⟩
       have hE5 := Aside0.mk (hE4.out.wrote hX.out hDf.out hw5)
       clear hw5 hE4
       go_wp2_with fail
       refine (jwb _ w5 hE5.out.jb (by rw [List.length_append, List.length_append, hYl.out]; have := hl1.out; have := hlen2.out; show _ + 4 + 1 + 1 ≤ _; omega)).mono ?_
       rintro e w6 ⟨rfl, hw6⟩
       have hE6 := Aside0.mk (hE5.out.wrote hX.out hDf.out hw6)
       clear hw6 hE5
       rw [hd1.out, hd2'.out] at hE6
       go_wp2_with fail
       go_roundg (n - (i + 1))
       case rel => exact ⟨i + 1, i + 1, k', _, by go_num, by go_num, by omega, by omega, ⟨rfl⟩, ⟨by have := hk.out; omega⟩, hE6, ⟨by have h := hT3.out; rw [hesc.out] at h; rw [Nat.sub_self, List.take_zero, List.append_nil, ← h]; simp [bytesOf]⟩⟩
       case measure => have := hq.out; omega
   ·have hge : (x < 128) = False := eq_false h128
    have hcall := hd.out.call wr i hlt hE.out.bt hE.out.d
    have hpos := hd.out.pos i hlt
    rw [hss.out] at hcall hpos
    obtain ⟨r, hr1⟩ : ∃ r, (dec (ss.drop i)).1 = r := ⟨_, rfl⟩
    obtain ⟨m, hm1⟩ : ∃ m, (dec (ss.drop i)).2 = m := ⟨_, rfl⟩
    rw [hr1, hm1] at hcall
    rw [hm1] at hpos
    have hsegz : Aside0 ((zs.drop st).take (i - st) = (ss.drop st).take (i - st)) := .mk (by rw [← hss.out, take_drop_take _ _ _ _ (by omega)])
    have hYl : Aside0 ((ys ++ (ss.drop st).take (i - st)).length = ys.length + (i - st)) := .mk (by
     have := hsl.out
     rw [List.length_append, List.length_take, List.length_drop]
     omega)
    have hE' : Aside0 (esc dec (k' + 1) (x :: ss.drop (i + 1)) = if r = 65533 ∧ m = 1 then [92, 117, 102, 102, 102, 100] ++ esc dec k' (ss.drop (i + m)) else if r = 8232 ∨ r = 8233 then [92, 117, 50, 48, 50, hexD (r % 16)] ++ esc dec k' (ss.drop (i + m)) else (ss.drop i).take m ++ esc dec k' (ss.drop (i + m))) := .mk (by
     rw [esc, if_neg h128, ← hcons.out, hr1, hm1, List.drop_drop])
    replace hcall := Aside0.mk hcall; replace hr1 := Aside0.mk hr1; replace hm1 := Aside0.mk hm1
    have hkm : Aside0 (n - (i + m) ≤ k') := .mk (by have := hk.out; omega)
    have hT5 := Aside0.mk (hT2.out)
    rw [hE'.out] at hT5
    clear hE' hT2
    by_cases hA : r = 65533 ∧ m = 1
    ·rw [if_pos hA] at hT5
     obtain ⟨rfl, rfl⟩ := hA
     have hlen : Aside0 (ys.length + (i - st) + 6 ≤ tot.length) := .mk (by
      have h := congrArg List.length hT5.out
      have := hYl.out
      simp only [List.length_append, List.length_cons, List.length_nil] at h this
      omega)
     go_wp2_with fail
     refine hcall.out.mono ?_
     rintro e w2 ⟨rfl, hd2⟩
     have hE2 := Aside0.mk (hE.out.calm hDf.out hd2)
     clear hd2 hE
     rcases Nat.lt_or_ge st i with hst | hst
     case' inl =>
      have hrd := seg_reads hE2.out.bt st (i - st) (by have := hn.out; omega) hz.out
      rw [hsegz.out] at hrd
      replace hrd := Aside0.mk hrd
      go_wp2_with fail
      refine (jw (some ⟨g, st, none⟩) (i - st) _ _ w2 hE2.out.jb hrd.out (by have := hl1.out; have := hlen.out; omega)).mono ?_
      rintro e w3 ⟨rfl, hw3⟩
      have hE3 := Aside0.mk (hE2.out.wrote hX.out hDf.out hw3)
      clear hw3 hrd
      go_wp2_with fail
     case' inr =>
      obtain ⟨w3, hw3⟩ : ∃ w3, w3 = w2 := ⟨_, rfl⟩
      have hE3 : Aside0 (ES D B b g X zs (ys ++ (ss.drop st).take (i - st)) w w3) := .mk (by rw [hw3, show i - st = 0 by omega, List.take_zero, List.append_nil]; exact hE2.out)
      rw [← hw3]
      clear hw3
      go_wp2_with fail

     all_goals
      refine (jws ⟨#[92, 117, 102, 102, 102, 100]⟩ w3 hE3.out.jb (by rw [hYl.out]; have := hl1.out; have := hlen.out; show _ + 6 ≤ _; omega)).mono ?_
      rintro e w4 ⟨rfl, hw4⟩
      have hE4 := Aside0.mk (hE3.out.wrote hX.out hDf.out hw4)
      clear hw4 hE3
      go_wp2_with fail
      go_roundg (n - (i + 1))
      case rel => exact ⟨i + 1, i + 1, k', _, by go_num, by go_num, by omega, by omega, ⟨rfl⟩, hkm, hE4, ⟨by have h := hT5.out; rw [Nat.sub_self, List.take_zero, List.append_nil, ← h]; simp [bytesOf]⟩⟩
      case measure => have := hq.out; omega
    ·rw [if_neg hA] at hT5
     by_cases hB : r = 8232 ∨ r = 8233
     ·rw [if_pos hB] at hT5
      have hlen : Aside0 (ys.length + (i - st) + 6 ≤ tot.length) := .mk (by
       have h := congrArg List.length hT5.out
       have := hYl.out
       simp only [List.length_append, List.length_cons, List.length_nil] at h this
       omega)
      have ha1 : Go.bits .and .i32 8232 15 = 8 := by decide +kernel
      have ha2 : Go.bits .and .i32 8233 15 = 9 := by decide +kernel
      have hiw : IntKind.i64.wrap ((i : Int) + (m : Int)) = ((i + m : Nat) : Int) := IntWalk.i64_in _ (by omega)
      clear hA
      rcases hB with rfl | rfl
      all_goals
       go_wp2_with fail
       refine hcall.out.mono ?_
       rintro e w2 ⟨rfl, hd2⟩
       have hE2 := Aside0.mk (hE.out.calm hDf.out hd2)
       clear hd2 hE
       rcases Nat.lt_or_ge st i with hst | hst
       case' inl =>
        have hrd := seg_reads hE2.out.bt st (i - st) (by have := hn.out; omega) hz.out
        rw [hsegz.out] at hrd
        replace hrd := Aside0.mk hrd
        go_wp2_with fail
        refine (jw (some ⟨g, st, none⟩) (i - st) _ _ w2 hE2.out.jb hrd.out (by have := hl1.out; have := hlen.out; omega)).mono ?_
        rintro e w3 ⟨rfl, hw3⟩
        have hE3 := Aside0.mk (hE2.out.wrote hX.out hDf.out hw3)
        clear hw3 hrd
        go_wp2_with fail
       case' inr =>
        obtain ⟨w3, hw3⟩ : ∃ w3, w3 = w2 := ⟨_, rfl⟩
        have hE3 : Aside0 (ES D B b g X zs (ys ++ (ss.drop st).take (i - st)) w w3) := .mk (by rw [hw3, show i - st = 0 by omega, List.take_zero, List.append_nil]; exact hE2.out)
        rw [← hw3]
        clear hw3
        go_wp2_with fail

       all_goals
        refine (jws ⟨#[92, 117, 50, 48, 50]⟩ w3 hE3.out.jb (by rw [hYl.out]; have := hl1.out; have := hlen.out; show _ + 5 ≤ _; omega)).mono ?_
        rintro e w4 ⟨rfl, hw4⟩
        have hE4 := Aside0.mk (hE3.out.wrote hX.out hDf.out hw4)
        clear hw4 hE3
        go_wp2_with fail
        refine (jwb _ w4 hE4.out.jb (by rw [List.length_append, hYl.out]; have := hl1.out; have := hlen.out; show _ + 5 + 1 ≤ _; omega)).mono ?_
        rintro e w5 ⟨rfl, hw5⟩
        have hE5 := Aside0.mk (hE4.out.wrote hX.out hDf.out hw5)
        clear hw5 hE4
        go_wp2_with fail
        go_roundg (n - (i + m))
        case rel => exact ⟨i + m, i + m, k', _, by go_num, by go_num, by omega, by omega, ⟨rfl⟩, hkm, hE5, ⟨by have h := hT5.out; rw [Nat.sub_self, List.take_zero, List.append_nil, ← h]; simp [bytesOf, hexD]; rfl⟩⟩
        case measure => have := hq.out; omega
     ·rw [if_neg hB] at hT5
      have hT6 : Aside0 (ys ++ (ss.drop st).take (i + m - st) ++ esc dec k' (ss.drop (i + m)) = tot) := .mk (by
       rw [← seg_app ss st i m hsi, ← hT5.out]
       simp)
      have hb2 : (r == 8232) = false := beq_eq_false_iff_ne.2 (fun e => hB (.inl e))
      have hb3 : (r == 8233) = false := beq_eq_false_iff_ne.2 (fun e => hB (.inr e))
      have hiw : IntKind.i64.wrap ((i : Int) + (m : Int)) = ((i + m : Nat) : Int) := IntWalk.i64_in _ (by omega)
      have hmm : r = 65533 → ((m : Int) == 1) = false := fun e => beq_eq_false_iff_ne.2 (fun h => hA ⟨e, by omega⟩)
      clear hA hB hT5
      by_cases h3 : r = 65533
      ·have hm3 := hmm h3
       subst h3
       clear hmm
       go_wp2_with fail
       refine hcall.out.mono ?_
       rintro e w2 ⟨rfl, hd2⟩
       have hE2 := Aside0.mk (hE.out.calm hDf.out hd2)
       clear hd2 hE
       go_wp2_with fail
       go_roundg (n - (i + m))
       case rel => exact ⟨st, i + m, k', ys, rfl, by go_num, by omega, by omega, ⟨rfl⟩, hkm, hE2, hT6⟩
       case measure => have := hq.out; omega
      ·have hb1 : (r == 65533) = false := beq_eq_false_iff_ne.2 h3
       clear hmm h3
       go_wp2_with fail
       refine hcall.out.mono ?_
       rintro e w2 ⟨rfl, hd2⟩
       have hE2 := Aside0.mk (hE.out.calm hDf.out hd2)
       clear hd2 hE
       go_wp2_with fail
       go_roundg (n - (i + m))
       case rel => exact ⟨st, i + m, k', ys, rfl, by go_num, by omega, by omega, ⟨rfl⟩, hkm, hE2, hT6⟩
       case measure => have := hq.out; omega
  ·obtain rfl : i = n := by omega
   have hT4 : Aside0 (ys ++ ss.drop st = tot) := .mk (by
    have h := hT.out
    rw [show ss.drop i = [] from List.drop_eq_nil_of_le (by have := hsl.out; omega), esc_nil, List.append_nil, List.take_of_length_le (by have := hsl.out; simp; omega)] at h
    exact h)
   clear hT
   have hlen : ys.length + (i - st) = tot.length := by
    rw [← hT4.out, List.length_append, List.length_drop, hsl.out]
   by_cases hst : st < i
   ·have hrd := seg_reads hE.out.bt st (i - st) (by have := hn.out; omega) hz.out
    have hseg : (zs.drop st).take (i - st) = ss.drop st := by
     rw [← hss.out, List.drop_take]
    rw [hseg] at hrd
    replace hrd := Aside0.mk hrd
    go_wp2_with fail
    refine (jw (some ⟨g, st, none⟩) (i - st) _ (ss.drop st) wr hE.out.jb hrd.out (by have := hl1.out; omega)).mono ?_
    rintro e w2 ⟨rfl, hw2⟩
    have hE2 := Aside0.mk (hE.out.wrote hX.out hDf.out hw2)
    rw [hT4.out] at hE2
    clear hw2
    go_wp2_with fail
    refine (jwb 34 w2 hE2.out.jb (by have := hl1.out; omega)).mono ?_
    rintro e w3 ⟨rfl, hw3⟩
    have hE3 := Aside0.mk (hE2.out.wrote hX.out hDf.out hw3)
    clear hw3
    go_wp2
    refine bodyPost_end (results_none rfl _ _ _) rfl ?_
    exact ⟨rfl, ⟨hE3.out.jb, hE3.out.fr⟩, hE3.out.d⟩
   ·obtain rfl : st = i := by omega
    have hT5 : Aside0 (ys = tot) := .mk (by have h := hT4.out; rwa [List.drop_eq_nil_of_le (by have := hsl.out; omega), List.append_nil] at h)
    go_wp2_with fail
    refine (jwb 34 wr hE.out.jb (by have := hl1.out; omega)).mono ?_
    rintro e w3 ⟨rfl, hw3⟩
    have hE3 := Aside0.mk (hE.out.wrote hX.out hDf.out hw3)
    rw [hT5.out] at hE3
    clear hw3
    go_wp2
    refine bodyPost_end (results_none rfl _ _ _) rfl ?_
    exact ⟨rfl, ⟨hE3.out.jb, hE3.out.fr⟩, hE3.out.d⟩
end H
end Go.Proofs.YtkihaebaccdjdaaGreatDoor
