import Derived.Test.YtkihaebaccdjdaaGreatDoorJ9
import Derived.Test.YtkihaebaccdjdaaGreatDoorJ10
set_option linter.unusedVariables false
set_option linter.unusedSimpArgs false
namespace Go.Proofs.YtkihaebaccdjdaaGreatDoor
open Go.RowKit Go.Proofs.YtkihaebaccdjdaaGreatDoorW.PrintWords Go.Proofs.YtkihaebaccdjdaaGreatDoorW.PrintLast Go.Proofs.YtkihaebaccdjdaaGreatDoorW.PrintMore
namespace H
/-! ### spec.rune0 -/
theorem b192 (c : Int) (h0 : 0 ≤ c) (h1 : c < 256) : (Go.bits .and .u8 c 192 != 128) = !decide (128 ≤ c ∧ c < 192) := by
 have : ∀ n : Nat, n < 256 → (Go.bits .and .u8 (n : Int) 192 != 128) = !decide (128 ≤ (n : Int) ∧ (n : Int) < 192) := by decide +kernel
 obtain ⟨n, rfl⟩ := Int.eq_ofNat_of_zero_le h0
 exact this n (by omega)
theorem bt_getD (s : ByteArray) (i : Nat) (h : i < s.size) : bt s (i : Int) = (bytesOf s).getD i 0 := by
 unfold bt bytesOf
 rw [dif_pos (by simpa using h), List.getD_eq_getElem?_getD, List.getElem?_map, List.getElem?_eq_getElem (by rw [data_length]; exact h)]
 rfl
set_option maxHeartbeats 40000000 in
set_option maxRecDepth 100000 in
theorem r0_call (s : ByteArray) (w : World) (hs : s.size ≤ 2147483647) :
 Calls Tryz.prog 129 #[.string s] w fun e w' => e = .returned (.tuple #[.int .i32 (r0 (bytesOf s)).1, .int .i64 ((r0 (bytesOf s)).2.1 : Nat), .bool (r0 (bytesOf s)).2.2]) ∧ Below w.heap.size w w' := by
 have hcv := fun (w : World) (s : ByteArray) => Lib.run_convert_string_bytes (P := Tryz.prog) w 9 22 5 s (u := .string) Tryz.underlying9 Tryz.underlying22 Tryz.underlying5
 by_cases h0 : s.size = 0
 ·have hb : bytesOf s = [] := List.eq_nil_of_length_eq_zero (by rw [bytesOf_length, h0])
  obtain rfl : s = ⟨#[]⟩ := by
   cases s with
   | mk d => simp [ByteArray.size] at h0; subst h0; rfl
  rw [hb]
  go_enter Tryz.func129, Tryz.ntmps129
  go_wp2
  go_ret3
  exact ⟨rfl, Below.refl _ _⟩
 ·obtain ⟨c, t, hct⟩ : ∃ c t, bytesOf s = c :: t := by
   cases hq : bytesOf s with
   | nil => exact absurd (by rw [← bytesOf_length, hq]; rfl) h0
   | cons c t => exact ⟨c, t, rfl⟩
  have hc : 0 ≤ c ∧ c < 256 := by
   have : c ∈ bytesOf s := by rw [hct]; simp
   unfold bytesOf at this
   obtain ⟨u, _, rfl⟩ := List.mem_map.1 this
   have := u.toNat_lt
   omega
  have htr : Aside0 (∀ d ∈ t, 0 ≤ d ∧ d < 256) := .mk (fun d hd => by
   have : d ∈ bytesOf s := by rw [hct]; simp [hd]
   unfold bytesOf at this
   obtain ⟨u, _, rfl⟩ := List.mem_map.1 this
   have := u.toNat_lt
   omega)
  have hbt : bt s 0 = c := by
   have := bt_getD s 0 (by omega)
   rw [hct] at this
   exact this
  have hie : s.toList.isEmpty = false := by
   rw [List.isEmpty_eq_false_iff]
   intro e
   have h1 : s.data.toList.length = 0 := by rw [show s.data.toList = s.toList from by simp [ByteArray.toList_eq]]; simp [e]
   rw [data_length] at h1
   exact h0 h1
  obtain ⟨m, hm⟩ : ∃ m, (s[0]'(by omega)).toNat = m := ⟨_, rfl⟩
  obtain rfl : c = (m : Int) := by
   rw [← hbt, ← hm]
   exact (bt_at s 0 (by simpa using Nat.pos_of_ne_zero h0)).symm
  have hw : wrap32 (m : Int) = (m : Int) := by simp [wrap32]; omega
  have hlen : Aside0 (t.length + 1 = s.size) := .mk (by rw [← bytesOf_length, hct]; rfl)
  have hbx : Aside0 (∀ k, bytesOf (s.extract 1 k) = t.take (k - 1)) := .mk (fun k => by rw [bytes_ext, hct]; rfl)
  have hsl : ∀ (k : Nat) (w : World), 1 ≤ k → k ≤ s.size → (Instr.slice 9 (.string s) (some (.int .i64 1)) (some (.int .i64 (k : Int))) none).run Tryz.prog w = .ok (.string (s.extract 1 k)) w := fun k w h1 h2 => by
   have := run_slice_string w 9 s .i64 .i64 1 (k : Int) Tryz.underlying9 (by omega) (by omega) (by omega)
   simpa using this
  rw [hct]
  have hz0 : (0 : Int) < (s.size : Int) := by omega
  by_cases h128 : (m : Int) < 128
  ·have e : r0 ((m : Int) :: t) = ((m : Int), 1, true) := by simp only [r0]; rw [if_pos h128]
   rw [e]
   clear htr hct hbt
   go_enter Tryz.func129, Tryz.ntmps129
   go_wp2
   go_ret3
   exact ⟨rfl, Below.refl _ _⟩
  ·by_cases hA : 194 ≤ (m : Int) ∧ (m : Int) < 224
   ·obtain ⟨hA1, hA2⟩ := hA
    have e : r0 ((m : Int) :: t) = r0n 2 128 ((m : Int) - 192) t := by simp only [r0]; rw [if_neg h128, if_pos ⟨hA1, hA2⟩]
    rw [e]
    clear hct hbt e
    have hx0 : Aside0 (((m % 32 : Nat) : Int) = (m : Int) - 192) := .mk (by omega)
    by_cases hsz : s.size < 2
    ·have hszI : (s.size : Int) < 2 := by omega
     have e2 : r0n 2 128 ((m : Int) - 192) t = (0, 0, false) := by unfold r0n; rw [if_pos (by have := hlen.out; omega)]
     rw [e2]
     clear hsl hcv htr
     go_enter Tryz.func129, Tryz.ntmps129
     go_wp2
     go_ret3
     exact ⟨rfl, Below.refl _ _⟩
    ·have hszI : ¬ ((s.size : Int) < 2) := by omega
     have hsl2 : ∀ w : World, (Instr.slice 9 (.string s) (some (.int .i64 1)) (some (.int .i64 2)) none).run Tryz.prog w = .ok (.string (s.extract 1 2)) w := fun w => hsl 2 w (by omega) (by omega)
     have hex : Aside0 (bytesOf (s.extract 1 2) = t.take 1) := .mk (hbx.out 2)
     have hes : (s.extract 1 2).size = 1 := by rw [← bytesOf_length, hex.out, List.length_take]; have := hlen.out; omega
     have htl : Aside0 ((t.take 1).length = 1) := .mk (by rw [List.length_take]; have := hlen.out; omega)
     have hr : Aside0 (r0n 2 128 ((m : Int) - 192) t = match cont ((m : Int) - 192) (t.take 1) with
      | none => (0, 0, false)
      | some y => if y < 128 ∨ 1114111 < y ∨ (55296 ≤ y ∧ y < 57344) then (0, 0, false) else (y, 2, true)) := .mk (by unfold r0n; rw [if_neg (by have := hlen.out; omega)]; rfl)
     obtain ⟨R, hR⟩ : ∃ R, r0n 2 128 ((m : Int) - 192) t = R := ⟨_, rfl⟩
     rw [hR] at hr ⊢
     replace hR := Aside0.mk hR
     obtain ⟨ts, hts⟩ : ∃ ts, t.take 1 = ts := ⟨_, rfl⟩
     have htr2 : Aside0 (∀ d ∈ ts, 0 ≤ d ∧ d < 256) := .mk (fun d hd => htr.out d (by rw [← hts] at hd; exact List.mem_of_mem_take hd))
     rw [hts] at hr hex htl
     obtain ⟨s1, hs1⟩ : ∃ s1, s.extract 1 2 = s1 := ⟨_, rfl⟩
     simp only [hs1] at hsl2 hex hes
     have hcv1 := hcv w s1
     have hb1 := Aside0.mk (bytesWorld_below w s1)
     have ha1 := BAt.of_string w s1
     have ht1 := strZs_take w s1
     rw [hes] at hcv1 ht1
     have hle : 1 ≤ (strZs w s1).length := by rw [strZs_length, hes]; exact grownCap_ge w 1 0 5
     have hzl : grownCap w 1 0 5 = (strZs w s1).length := by rw [strZs_length, hes]
     rw [hzl] at hcv1
     generalize strZs w s1 = z1 at *
     rw [hex.out] at ht1
     replace ha1 := Aside0.mk ha1; replace ht1 := Aside0.mk ht1
     clear hsl hcv htr hbx hts hs1 hzl
     go_enter Tryz.func129, Tryz.ntmps129
     go_wp2_with fail
     generalize Lib.bytesWorld w 5 s1 = W1 at *
     obtain ⟨g, hg⟩ : ∃ g, w.heap.size = g := ⟨_, rfl⟩
     rw [hg] at ha1 hb1 ⊢
     go_loopg [8, 10, 60] 2 (fun q v8 v10 v60 w' => ∃ (i y : Nat), v8 = .int .i32 (y : Int) ∧ v60 = .int .i64 (i : Int) ∧ i ≤ 1 ∧ Aside0 (q = 2 - i) ∧ Aside0 (y < 32 * 64 ^ i) ∧ Aside0 (cont (y : Int) (ts.drop i) = cont ((m : Int) - 192) ts) ∧ w' = W1)
     case atStart => exact ⟨0, m % 32, by simp, rfl, by omega, ⟨by omega⟩, ⟨by omega⟩, ⟨by rw [hx0.out]; rfl⟩, rfl⟩
     case round =>
      obtain ⟨i, y, rfl, rfl, hin, hq, hy, hco, rfl⟩ := hrel
      have hyb : y < 8388608 := by
       have h := hy.out
       have : i = 0 ∨ i = 1 ∨ i = 2 ∨ i = 3 := by omega
       rcases this with rfl | rfl | rfl | rfl <;> omega
      by_cases hlt : i < 1
      ·have hlt2 : ((i : Int) < 1) := by omega
       have hcell := ha1.out.cell i (by omega)
       have hget : ts[i]? = some (z1.getD i 0) := by
        rw [← ht1.out, List.getElem?_take, if_pos hlt, List.getD_eq_getElem?_getD, List.getElem?_eq_getElem (by omega)]; rfl
       have hd := htr2.out _ (List.mem_of_getElem? hget)
       have hdr : ts.drop i = z1.getD i 0 :: ts.drop (i + 1) := by
        obtain ⟨h1, h2⟩ := List.getElem?_eq_some_iff.1 hget
        rw [List.drop_eq_getElem_cons h1, h2]
       obtain ⟨d, hdd⟩ : ∃ d : Nat, z1.getD i 0 = (d : Int) := ⟨(z1.getD i 0).toNat, by omega⟩
       rw [hdd] at hcell hdr hd
       have h192 := b192 (d : Int) hd.1 hd.2
       have hco2 := Aside0.mk hco.out
       rw [hdr, cont] at hco2
       clear hget hdd hdr
       by_cases hok : 128 ≤ (d : Int) ∧ (d : Int) < 192
       ·rw [decide_eq_true hok] at h192
        rw [if_pos hok] at hco2
        simp only [Bool.not_true] at h192
        go_wp2_with fail
        go_roundg (2 - (i + 1))
        case rel => exact ⟨i + 1, y * 64 + d % 64, by simp, by go_num, by omega, ⟨rfl⟩, ⟨by have h := hy.out; rw [Nat.pow_succ]; omega⟩, ⟨by rw [← hco2.out]; congr 1; omega⟩, rfl⟩
        case measure => have := hq.out; omega
       ·rw [decide_eq_false hok] at h192
        rw [if_neg hok] at hco2
        rw [← hco2.out] at hr
        simp only [Bool.not_false] at h192
        go_wp2
        go_ret3
        exact ⟨by rw [hr.out]; rfl, by first | exact hb1.out | (rw [hg]; exact hb1.out)⟩
      ·obtain rfl : i = 1 := by omega
       have hdn : ts.drop 1 = [] := List.drop_eq_nil_of_le (by have := htl.out; omega)
       rw [hdn, cont] at hco
       rw [← hco.out] at hr
       simp only at hr
       clear hco hdn hy hx0
       by_cases q1 : (y : Int) < 128
       ·rw [if_pos (.inl q1)] at hr
        go_wp2
        go_ret3
        exact ⟨by rw [hr.out]; rfl, by first | exact hb1.out | (rw [hg]; exact hb1.out)⟩
       ·by_cases q2 : 1114111 < (y : Int)
        ·rw [if_pos (.inr (.inl q2))] at hr
         go_wp2
         go_ret3
         exact ⟨by rw [hr.out]; rfl, by first | exact hb1.out | (rw [hg]; exact hb1.out)⟩
        ·by_cases q3 : 55296 ≤ (y : Int)
         ·by_cases q4 : (y : Int) < 57344
          ·rw [if_pos (.inr (.inr ⟨q3, q4⟩))] at hr
           go_wp2
           go_ret3
           exact ⟨by rw [hr.out]; rfl, by first | exact hb1.out | (rw [hg]; exact hb1.out)⟩
          ·rw [if_neg (by omega)] at hr
           go_wp2
           go_ret3
           exact ⟨by rw [hr.out]; rfl, by first | exact hb1.out | (rw [hg]; exact hb1.out)⟩
         ·rw [if_neg (by omega)] at hr
          go_wp2
          go_ret3
          exact ⟨by rw [hr.out]; rfl, by first | exact hb1.out | (rw [hg]; exact hb1.out)⟩
   ·by_cases hB : 224 ≤ (m : Int) ∧ (m : Int) < 240
    ·obtain ⟨hA1, hA2⟩ := hB
     have e : r0 ((m : Int) :: t) = r0n 3 2048 ((m : Int) - 224) t := by simp only [r0]; rw [if_neg h128, if_neg hA, if_pos ⟨hA1, hA2⟩]
     rw [e]
     clear hct hbt e
     have hx0 : Aside0 (((m % 16 : Nat) : Int) = (m : Int) - 224) := .mk (by omega)
     by_cases hsz : s.size < 3
     ·have hszI : (s.size : Int) < 3 := by omega
      have e2 : r0n 3 2048 ((m : Int) - 224) t = (0, 0, false) := by unfold r0n; rw [if_pos (by have := hlen.out; omega)]
      rw [e2]
      clear hsl hcv htr
      go_enter Tryz.func129, Tryz.ntmps129
      go_wp2
      go_ret3
      exact ⟨rfl, Below.refl _ _⟩
     ·have hszI : ¬ ((s.size : Int) < 3) := by omega
      have hsl2 : ∀ w : World, (Instr.slice 9 (.string s) (some (.int .i64 1)) (some (.int .i64 3)) none).run Tryz.prog w = .ok (.string (s.extract 1 3)) w := fun w => hsl 3 w (by omega) (by omega)
      have hex : Aside0 (bytesOf (s.extract 1 3) = t.take 2) := .mk (hbx.out 3)
      have hes : (s.extract 1 3).size = 2 := by rw [← bytesOf_length, hex.out, List.length_take]; have := hlen.out; omega
      have htl : Aside0 ((t.take 2).length = 2) := .mk (by rw [List.length_take]; have := hlen.out; omega)
      have hr : Aside0 (r0n 3 2048 ((m : Int) - 224) t = match cont ((m : Int) - 224) (t.take 2) with
       | none => (0, 0, false)
       | some y => if y < 2048 ∨ 1114111 < y ∨ (55296 ≤ y ∧ y < 57344) then (0, 0, false) else (y, 3, true)) := .mk (by unfold r0n; rw [if_neg (by have := hlen.out; omega)]; rfl)
      obtain ⟨R, hR⟩ : ∃ R, r0n 3 2048 ((m : Int) - 224) t = R := ⟨_, rfl⟩
      rw [hR] at hr ⊢
      replace hR := Aside0.mk hR
      obtain ⟨ts, hts⟩ : ∃ ts, t.take 2 = ts := ⟨_, rfl⟩
      have htr2 : Aside0 (∀ d ∈ ts, 0 ≤ d ∧ d < 256) := .mk (fun d hd => htr.out d (by rw [← hts] at hd; exact List.mem_of_mem_take hd))
      rw [hts] at hr hex htl
      obtain ⟨s1, hs1⟩ : ∃ s1, s.extract 1 3 = s1 := ⟨_, rfl⟩
      simp only [hs1] at hsl2 hex hes
      have hcv1 := hcv w s1
      have hb1 := Aside0.mk (bytesWorld_below w s1)
      have ha1 := BAt.of_string w s1
      have ht1 := strZs_take w s1
      rw [hes] at hcv1 ht1
      have hle : 2 ≤ (strZs w s1).length := by rw [strZs_length, hes]; exact grownCap_ge w 2 0 5
      have hzl : grownCap w 2 0 5 = (strZs w s1).length := by rw [strZs_length, hes]
      rw [hzl] at hcv1
      generalize strZs w s1 = z1 at *
      rw [hex.out] at ht1
      replace ha1 := Aside0.mk ha1; replace ht1 := Aside0.mk ht1
      clear hsl hcv htr hbx hts hs1 hzl
      go_enter Tryz.func129, Tryz.ntmps129
      go_wp2_with fail
      generalize Lib.bytesWorld w 5 s1 = W1 at *
      obtain ⟨g, hg⟩ : ∃ g, w.heap.size = g := ⟨_, rfl⟩
      rw [hg] at ha1 hb1 ⊢
      go_loopg [8, 10, 60] 3 (fun q v8 v10 v60 w' => ∃ (i y : Nat), v8 = .int .i32 (y : Int) ∧ v60 = .int .i64 (i : Int) ∧ i ≤ 2 ∧ Aside0 (q = 3 - i) ∧ Aside0 (y < 32 * 64 ^ i) ∧ Aside0 (cont (y : Int) (ts.drop i) = cont ((m : Int) - 224) ts) ∧ w' = W1)
      case atStart => exact ⟨0, m % 16, by simp, rfl, by omega, ⟨by omega⟩, ⟨by omega⟩, ⟨by rw [hx0.out]; rfl⟩, rfl⟩
      case round =>
       obtain ⟨i, y, rfl, rfl, hin, hq, hy, hco, rfl⟩ := hrel
       have hyb : y < 8388608 := by
        have h := hy.out
        have : i = 0 ∨ i = 1 ∨ i = 2 ∨ i = 3 := by omega
        rcases this with rfl | rfl | rfl | rfl <;> omega
       by_cases hlt : i < 2
       ·have hlt2 : ((i : Int) < 2) := by omega
        have hcell := ha1.out.cell i (by omega)
        have hget : ts[i]? = some (z1.getD i 0) := by
         rw [← ht1.out, List.getElem?_take, if_pos hlt, List.getD_eq_getElem?_getD, List.getElem?_eq_getElem (by omega)]; rfl
        have hd := htr2.out _ (List.mem_of_getElem? hget)
        have hdr : ts.drop i = z1.getD i 0 :: ts.drop (i + 1) := by
         obtain ⟨h1, h2⟩ := List.getElem?_eq_some_iff.1 hget
         rw [List.drop_eq_getElem_cons h1, h2]
        obtain ⟨d, hdd⟩ : ∃ d : Nat, z1.getD i 0 = (d : Int) := ⟨(z1.getD i 0).toNat, by omega⟩
        rw [hdd] at hcell hdr hd
        have h192 := b192 (d : Int) hd.1 hd.2
        have hco2 := Aside0.mk hco.out
        rw [hdr, cont] at hco2
        clear hget hdd hdr
        by_cases hok : 128 ≤ (d : Int) ∧ (d : Int) < 192
        ·rw [decide_eq_true hok] at h192
         rw [if_pos hok] at hco2
         simp only [Bool.not_true] at h192
         go_wp2_with fail
         go_roundg (3 - (i + 1))
         case rel => exact ⟨i + 1, y * 64 + d % 64, by simp, by go_num, by omega, ⟨rfl⟩, ⟨by have h := hy.out; rw [Nat.pow_succ]; omega⟩, ⟨by rw [← hco2.out]; congr 1; omega⟩, rfl⟩
         case measure => have := hq.out; omega
        ·rw [decide_eq_false hok] at h192
         rw [if_neg hok] at hco2
         rw [← hco2.out] at hr
         simp only [Bool.not_false] at h192
         go_wp2
         go_ret3
         exact ⟨by rw [hr.out]; rfl, by first | exact hb1.out | (rw [hg]; exact hb1.out)⟩
       ·obtain rfl : i = 2 := by omega
        have hdn : ts.drop 2 = [] := List.drop_eq_nil_of_le (by have := htl.out; omega)
        rw [hdn, cont] at hco
        rw [← hco.out] at hr
        simp only at hr
        clear hco hdn hy hx0
        by_cases q1 : (y : Int) < 2048
        ·rw [if_pos (.inl q1)] at hr
         go_wp2
         go_ret3
         exact ⟨by rw [hr.out]; rfl, by first | exact hb1.out | (rw [hg]; exact hb1.out)⟩
        ·by_cases q2 : 1114111 < (y : Int)
         ·rw [if_pos (.inr (.inl q2))] at hr
          go_wp2
          go_ret3
          exact ⟨by rw [hr.out]; rfl, by first | exact hb1.out | (rw [hg]; exact hb1.out)⟩
         ·by_cases q3 : 55296 ≤ (y : Int)
          ·by_cases q4 : (y : Int) < 57344
           ·rw [if_pos (.inr (.inr ⟨q3, q4⟩))] at hr
            go_wp2
            go_ret3
            exact ⟨by rw [hr.out]; rfl, by first | exact hb1.out | (rw [hg]; exact hb1.out)⟩
           ·rw [if_neg (by omega)] at hr
            go_wp2
            go_ret3
            exact ⟨by rw [hr.out]; rfl, by first | exact hb1.out | (rw [hg]; exact hb1.out)⟩
          ·rw [if_neg (by omega)] at hr
           go_wp2
           go_ret3
           exact ⟨by rw [hr.out]; rfl, by first | exact hb1.out | (rw [hg]; exact hb1.out)⟩
    ·by_cases hC : 240 ≤ (m : Int) ∧ (m : Int) < 245
     ·obtain ⟨hA1, hA2⟩ := hC
      have e : r0 ((m : Int) :: t) = r0n 4 65536 ((m : Int) - 240) t := by simp only [r0]; rw [if_neg h128, if_neg hA, if_neg hB, if_pos ⟨hA1, hA2⟩]
      rw [e]
      clear hct hbt e
      have hx0 : Aside0 (((m % 8 : Nat) : Int) = (m : Int) - 240) := .mk (by omega)
      by_cases hsz : s.size < 4
      ·have hszI : (s.size : Int) < 4 := by omega
       have e2 : r0n 4 65536 ((m : Int) - 240) t = (0, 0, false) := by unfold r0n; rw [if_pos (by have := hlen.out; omega)]
       rw [e2]
       clear hsl hcv htr
       go_enter Tryz.func129, Tryz.ntmps129
       go_wp2
       go_ret3
       exact ⟨rfl, Below.refl _ _⟩
      ·have hszI : ¬ ((s.size : Int) < 4) := by omega
       have hsl2 : ∀ w : World, (Instr.slice 9 (.string s) (some (.int .i64 1)) (some (.int .i64 4)) none).run Tryz.prog w = .ok (.string (s.extract 1 4)) w := fun w => hsl 4 w (by omega) (by omega)
       have hex : Aside0 (bytesOf (s.extract 1 4) = t.take 3) := .mk (hbx.out 4)
       have hes : (s.extract 1 4).size = 3 := by rw [← bytesOf_length, hex.out, List.length_take]; have := hlen.out; omega
       have htl : Aside0 ((t.take 3).length = 3) := .mk (by rw [List.length_take]; have := hlen.out; omega)
       have hr : Aside0 (r0n 4 65536 ((m : Int) - 240) t = match cont ((m : Int) - 240) (t.take 3) with
        | none => (0, 0, false)
        | some y => if y < 65536 ∨ 1114111 < y ∨ (55296 ≤ y ∧ y < 57344) then (0, 0, false) else (y, 4, true)) := .mk (by unfold r0n; rw [if_neg (by have := hlen.out; omega)]; rfl)
       obtain ⟨R, hR⟩ : ∃ R, r0n 4 65536 ((m : Int) - 240) t = R := ⟨_, rfl⟩
       rw [hR] at hr ⊢
       replace hR := Aside0.mk hR
       obtain ⟨ts, hts⟩ : ∃ ts, t.take 3 = ts := ⟨_, rfl⟩
       have htr2 : Aside0 (∀ d ∈ ts, 0 ≤ d ∧ d < 256) := .mk (fun d hd => htr.out d (by rw [← hts] at hd; exact List.mem_of_mem_take hd))
       rw [hts] at hr hex htl
       obtain ⟨s1, hs1⟩ : ∃ s1, s.extract 1 4 = s1 := ⟨_, rfl⟩
       simp only [hs1] at hsl2 hex hes
       have hcv1 := hcv w s1
       have hb1 := Aside0.mk (bytesWorld_below w s1)
       have ha1 := BAt.of_string w s1
       have ht1 := strZs_take w s1
       rw [hes] at hcv1 ht1
       have hle : 3 ≤ (strZs w s1).length := by rw [strZs_length, hes]; exact grownCap_ge w 3 0 5
       have hzl : grownCap w 3 0 5 = (strZs w s1).length := by rw [strZs_length, hes]
       rw [hzl] at hcv1
       generalize strZs w s1 = z1 at *
       rw [hex.out] at ht1
       replace ha1 := Aside0.mk ha1; replace ht1 := Aside0.mk ht1
       clear hsl hcv htr hbx hts hs1 hzl
       go_enter Tryz.func129, Tryz.ntmps129
       go_wp2_with fail
       generalize Lib.bytesWorld w 5 s1 = W1 at *
       obtain ⟨g, hg⟩ : ∃ g, w.heap.size = g := ⟨_, rfl⟩
       rw [hg] at ha1 hb1 ⊢
       go_loopg [8, 10, 60] 4 (fun q v8 v10 v60 w' => ∃ (i y : Nat), v8 = .int .i32 (y : Int) ∧ v60 = .int .i64 (i : Int) ∧ i ≤ 3 ∧ Aside0 (q = 4 - i) ∧ Aside0 (y < 32 * 64 ^ i) ∧ Aside0 (cont (y : Int) (ts.drop i) = cont ((m : Int) - 240) ts) ∧ w' = W1)
       case atStart => exact ⟨0, m % 8, by simp, rfl, by omega, ⟨by omega⟩, ⟨by omega⟩, ⟨by rw [hx0.out]; rfl⟩, rfl⟩
       case round =>
        obtain ⟨i, y, rfl, rfl, hin, hq, hy, hco, rfl⟩ := hrel
        have hyb : y < 8388608 := by
         have h := hy.out
         have : i = 0 ∨ i = 1 ∨ i = 2 ∨ i = 3 := by omega
         rcases this with rfl | rfl | rfl | rfl <;> omega
        by_cases hlt : i < 3
        ·have hlt2 : ((i : Int) < 3) := by omega
         have hcell := ha1.out.cell i (by omega)
         have hget : ts[i]? = some (z1.getD i 0) := by
          rw [← ht1.out, List.getElem?_take, if_pos hlt, List.getD_eq_getElem?_getD, List.getElem?_eq_getElem (by omega)]; rfl
         have hd := htr2.out _ (List.mem_of_getElem? hget)
         have hdr : ts.drop i = z1.getD i 0 :: ts.drop (i + 1) := by
          obtain ⟨h1, h2⟩ := List.getElem?_eq_some_iff.1 hget
          rw [List.drop_eq_getElem_cons h1, h2]
         obtain ⟨d, hdd⟩ : ∃ d : Nat, z1.getD i 0 = (d : Int) := ⟨(z1.getD i 0).toNat, by omega⟩
         rw [hdd] at hcell hdr hd
         have h192 := b192 (d : Int) hd.1 hd.2
         have hco2 := Aside0.mk hco.out
         rw [hdr, cont] at hco2
         clear hget hdd hdr
         by_cases hok : 128 ≤ (d : Int) ∧ (d : Int) < 192
         ·rw [decide_eq_true hok] at h192
          rw [if_pos hok] at hco2
          simp only [Bool.not_true] at h192
          go_wp2_with fail
          go_roundg (4 - (i + 1))
          case rel => exact ⟨i + 1, y * 64 + d % 64, by simp, by go_num, by omega, ⟨rfl⟩, ⟨by have h := hy.out; rw [Nat.pow_succ]; omega⟩, ⟨by rw [← hco2.out]; congr 1; omega⟩, rfl⟩
          case measure => have := hq.out; omega
         ·rw [decide_eq_false hok] at h192
          rw [if_neg hok] at hco2
          rw [← hco2.out] at hr
          simp only [Bool.not_false] at h192
          go_wp2
          go_ret3
          exact ⟨by rw [hr.out]; rfl, by first | exact hb1.out | (rw [hg]; exact hb1.out)⟩
        ·obtain rfl : i = 3 := by omega
         have hdn : ts.drop 3 = [] := List.drop_eq_nil_of_le (by have := htl.out; omega)
         rw [hdn, cont] at hco
         rw [← hco.out] at hr
         simp only at hr
         clear hco hdn hy hx0
         by_cases q1 : (y : Int) < 65536
         ·rw [if_pos (.inl q1)] at hr
          go_wp2
          go_ret3
          exact ⟨by rw [hr.out]; rfl, by first | exact hb1.out | (rw [hg]; exact hb1.out)⟩
         ·by_cases q2 : 1114111 < (y : Int)
          ·rw [if_pos (.inr (.inl q2))] at hr
           go_wp2
           go_ret3
           exact ⟨by rw [hr.out]; rfl, by first | exact hb1.out | (rw [hg]; exact hb1.out)⟩
          ·by_cases q3 : 55296 ≤ (y : Int)
           ·by_cases q4 : (y : Int) < 57344
            ·rw [if_pos (.inr (.inr ⟨q3, q4⟩))] at hr
             go_wp2
             go_ret3
             exact ⟨by rw [hr.out]; rfl, by first | exact hb1.out | (rw [hg]; exact hb1.out)⟩
            ·rw [if_neg (by omega)] at hr
             go_wp2
             go_ret3
             exact ⟨by rw [hr.out]; rfl, by first | exact hb1.out | (rw [hg]; exact hb1.out)⟩
           ·rw [if_neg (by omega)] at hr
            go_wp2
            go_ret3
            exact ⟨by rw [hr.out]; rfl, by first | exact hb1.out | (rw [hg]; exact hb1.out)⟩
     ·have e : r0 ((m : Int) :: t) = (0, 0, false) := by simp only [r0]; rw [if_neg h128, if_neg hA, if_neg hB, if_neg hC]
      rw [e]
      clear htr hct hbt hsl hcv
      by_cases g1 : (194 : Int) ≤ (m : Int)
      ·have g2 : ¬ ((m : Int) < 224) := fun h => hA ⟨g1, h⟩
       have g3 : (224 : Int) ≤ (m : Int) := by omega
       have g4 : ¬ ((m : Int) < 240) := fun h => hB ⟨g3, h⟩
       have g5 : (240 : Int) ≤ (m : Int) := by omega
       have g6 : ¬ ((m : Int) < 245) := fun h => hC ⟨g5, h⟩
       clear hA hB hC
       go_enter Tryz.func129, Tryz.ntmps129
       go_wp2
       go_ret3
       exact ⟨rfl, Below.refl _ _⟩
      ·have g3 : ¬ ((224 : Int) ≤ (m : Int)) := by omega
       have g5 : ¬ ((240 : Int) ≤ (m : Int)) := by omega
       clear hA hB hC
       go_enter Tryz.func129, Tryz.ntmps129
       go_wp2
       go_ret3
       exact ⟨rfl, Below.refl _ _⟩
end H
end Go.Proofs.YtkihaebaccdjdaaGreatDoor
