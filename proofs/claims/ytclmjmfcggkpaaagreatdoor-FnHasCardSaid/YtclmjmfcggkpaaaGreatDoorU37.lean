import Derived.Test.YtclmjmfcggkpaaaGreatDoorU35
import Derived.Test.YtclmjmfcggkpaaaGreatDoorU21
import Derived.Test.YtclmjmfcggkpaaaGreatDoorU36
import Derived.Test.YtclmjmfcggkpaaaGreatDoorU4
set_option linter.unusedVariables false
set_option linter.unusedSimpArgs false
namespace Go.Proofs.YtclmjmfcggkpaaaGreatDoor
open Go.RowKit Go.Proofs.YtclmjmfcggkpaaaGreatDoorW.PrintWords Go.Proofs.YtclmjmfcggkpaaaGreatDoorW.PrintLast Go.Proofs.YtclmjmfcggkpaaaGreatDoorW.PrintMore
open PX
namespace HH
open H
theorem raise {α : Type} {f : Nat → Option α} (h : ∀ k, LeO (f k) (f (k + 1))) {k k' : Nat} (hk : k ≤ k') {r : α} (e : f k = some r) : f k' = some r := by
 induction k' with
 | zero =>
   have : k = 0 := by omega
   subst this
   exact e
 | succ n ih =>
   rcases Nat.lt_or_ge n k with h1 | h1
   ·obtain rfl : k = n + 1 := by omega
    exact e
   ·exact h n r (ih h1)
def hwB (p : ByteArray) : Bool := wordL (bytesOf p) && decide (65 ≤ bt p 0) && decide (bt p 0 ≤ 90) && decide ((p.extract 1 p.size).toList = (strOfNums (smallL (bytesOf (p.extract 1 p.size)))).toList)
def hnB (s : ByteArray) : Bool := (partsB 45 s).all hwB
theorem rdOf_drop' (l : List ByteArray) (k : Nat) (h : k < l.length) : l.drop k = rdOf ByteArray.empty l (k : Int) :: l.drop (k + 1) := by
 rw [List.drop_eq_getElem_cons h]
 simp [rdOf, List.getElem?_eq_getElem h, h]
theorem cutL_eq2 (s : ByteArray) (c : Int) (hs : s.size ≤ 1099511627776) : ∀ (n k i : Nat), k + n = i → i ≤ s.size → (∀ j : Nat, j < i → bt s j ≠ c) → (i < s.size → bt s i = c) → ∀ F, n + 1 ≤ F →
 spec_cut.l0 F s c (s.size : Int) (k : Int) = some (if i < s.size then (s.extract 0 i, s.extract (i + 1) s.size, true) else (s, ⟨#[]⟩, false)) := by
 intro n
 induction n with
 | zero =>
   intro k i hk hle hno hat F hF
   obtain rfl : k = i := by omega
   match F, hF with
   | F + 1, _ =>
     rw [spec_cut.l0]
     by_cases hlt : k < s.size
     ·rw [if_pos (by omega), if_pos (by omega), if_pos (by omega), if_pos (hat hlt), if_pos (by omega), wr1 k s.size hlt (by omega), if_pos (by omega), if_pos (by omega), if_pos hlt]
      rfl
     ·rw [if_neg (by omega), if_neg hlt]
 | succ n ih =>
   intro k i hk hle hno hat F hF
   match F, hF with
   | F + 1, hF =>
     rw [spec_cut.l0, if_pos (by omega), if_pos (by omega), if_pos (by omega), if_neg (hno k (by omega)), wr1 k s.size (by omega) (by omega)]
     exact ih (k + 1) i (by omega) hle hno hat F (by omega)
theorem split_eq2 (c : Int) : ∀ (n : Nat) (s : ByteArray) (acc : List ByteArray), s.size ≤ n → s.size ≤ 1099511627776 → acc.length + s.size ≤ 8000000000000 → ∀ F, s.size + 2 ≤ F →
 spec_split.l0 F s c acc = some (acc ++ partsB c s) := by
 intro n
 induction n with
 | zero =>
   intro s acc hn hs hacc F hF
   match F, hF with
   | F + 1, hF =>
     have h0 : s.size = 0 := by omega
     have hl : bytesOf s = [] := List.length_eq_zero_iff.1 (by rw [bytesOf_length]; exact h0)
     have hc : spec_cut.l0 F s c (s.size : Int) 0 = _ := cutL_eq2 s c hs 0 0 0 rfl (by omega) (fun j hj => by omega) (fun h => by omega) F (by omega)
     rw [spec_split.l0, spec_cut.f, hc, if_neg (by omega)]
     simp only [Option.bind_some, Bool.false_eq_true, if_false]
     rw [if_pos (by omega)]
     have e : strOfNums [] = s := by rw [← hl, strOf_bytesOf]
     simp [partsB, hl, splitL, e]
 | succ n ih =>
   intro s acc hn hs hacc F hF
   match F, hF with
   | F + 1, hF =>
     obtain ⟨i, hi, hno, hat⟩ := fst_at s c
     have hc : spec_cut.l0 F s c (s.size : Int) 0 = _ := cutL_eq2 s c hs i 0 i (by omega) hi hno hat F (by omega)
     have hbl := bytesOf_length s
     have hpre : ∀ x ∈ (bytesOf s).take i, x ≠ c := by
      intro x hx
      obtain ⟨j, hj, rfl⟩ := List.mem_iff_getElem.1 hx
      simp only [List.length_take] at hj
      rw [List.getElem_take, bytes_at s j (by omega)]
      exact hno j (by omega)
     rw [spec_split.l0, spec_cut.f, hc]
     by_cases hlt : i < s.size
     ·rw [if_pos hlt]
      simp only [Option.bind_some, if_true]
      rw [if_pos (by omega)]
      have hz : (s.extract (i + 1) s.size).size = s.size - (i + 1) := by simp
      rw [ih _ _ (by omega) (by omega) (by simp; omega) F (by omega)]
      have e1 : bytesOf (s.extract 0 i) = (bytesOf s).take i := by rw [bytes_ext]; simp
      have e2 : bytesOf (s.extract (i + 1) s.size) = (bytesOf s).drop (i + 1) := by
       rw [bytes_ext, List.take_of_length_le (by rw [List.length_drop, hbl]; omega)]
      have e3 : bytesOf s = (bytesOf s).take i ++ c :: (bytesOf s).drop (i + 1) := by
       conv => lhs; rw [← List.take_append_drop i (bytesOf s)]
       rw [drop_bt s i hlt, hat hlt]
      have e4 : partsB c s = s.extract 0 i :: partsB c (s.extract (i + 1) s.size) := by
       unfold partsB
       rw [e2]
       conv => lhs; rw [e3]
       rw [splitL_at hpre, List.map_cons, ← e1, strOf_bytesOf]
      rw [e4]
      simp
     ·rw [if_neg hlt]
      simp only [Option.bind_some, Bool.false_eq_true, if_false]
      rw [if_pos (by omega)]
      have e5 : (bytesOf s).take i = bytesOf s := List.take_of_length_le (by omega)
      rw [e5] at hpre
      simp [partsB, splitL_no hpre, strOf_bytesOf]
theorem wordL_len {l : List Int} (h : wordL l = true) : l.length ≤ 50 := by
 cases l with
 | nil => cases h
 | cons c r =>
   unfold wordL at h
   rw [Bool.and_eq_true, decide_eq_true_eq] at h
   simpa using h.2
theorem hn_l0 (ps : List ByteArray) (hl : ps.length ≤ 9223372036854775807) (hz : ∀ p ∈ ps, p.size ≤ 1099511627776) : ∀ (n k : Nat), n = ps.length - k → k ≤ ps.length →
 ∃ F, spec_IsHeaderName.l0 F ps (ps.length : Int) (k : Int) = some ((ps.drop k).all hwB) := by
 intro n
 induction n with
 | zero =>
   intro k hn hk
   obtain rfl : k = ps.length := by omega
   refine ⟨1, ?_⟩
   rw [spec_IsHeaderName.l0, if_neg (by omega), List.drop_of_length_le (Nat.le_refl _)]
   rfl
 | succ n ih =>
   intro k hn hk
   have hlt : k < ps.length := by omega
   obtain ⟨F, hF⟩ := ih (k + 1) (by omega) (by omega)
   have hd := rdOf_drop' ps k hlt
   have hm : rdOf ByteArray.empty ps (k : Int) ∈ ps := List.mem_of_mem_drop (i := k) (by rw [hd]; exact List.mem_cons_self)
   have hs := hz _ hm
   rw [hd]
   have hstep := fun F => spec_IsHeaderName.l0.eq_2 ps (ps.length : Int) (k : Int) F
   generalize rdOf ByteArray.empty ps (k : Int) = p at *
   have hw := isWord_eq p (by omega)
   refine ⟨max F (p.size + 1) + 1, ?_⟩
   have h1 := raise (f := fun k => spec_isWord.f k p) (fun k => spec_isWord.mono p k) (Nat.le_max_right F (p.size + 1)) hw
   have h2 := raise (f := fun F => spec_IsHeaderName.l0 F ps (ps.length : Int) ((k + 1 : Nat) : Int)) (fun F => (spec_IsHeaderName.mono_l F) _ _ _) (Nat.le_max_left F (p.size + 1)) hF
   generalize max F (p.size + 1) = F' at *
   rw [hstep, if_pos (by omega), if_pos (by omega), if_pos (by omega), h1, wr1' k ps.length hlt hl, h2]
   simp only [Option.bind_some, List.all_cons]
   unfold hwB
   cases hwl : wordL (bytesOf p) with
   | false => simp
   | true =>
     have hp50 := wordL_len hwl
     rw [bytesOf_length] at hp50
     have hp : 0 < p.size := by
      rcases Nat.eq_zero_or_pos p.size with h0 | h0
      ·have : bytesOf p = [] := List.eq_nil_of_length_eq_zero (by rw [bytesOf_length]; exact h0)
       rw [this] at hwl
       cases hwl
      ·exact h0
     rw [if_pos rfl, if_pos (by omega)]
     by_cases g1 : bt p 0 < 65
     ·rw [if_pos g1]
      have : decide (65 ≤ bt p 0) = false := decide_eq_false (by omega)
      simp [this]
     ·rw [if_neg g1]
      by_cases g2 : bt p 0 > 90
      ·rw [if_pos g2]
       have : decide (bt p 0 ≤ 90) = false := decide_eq_false (by omega)
       simp [this]
      ·rw [if_neg g2, if_pos (by omega)]
       have e1 : decide (65 ≤ bt p 0) = true := decide_eq_true (by omega)
       have e2 : decide (bt p 0 ≤ 90) = true := decide_eq_true (by omega)
       unfold spec_small.f
       rw [if_pos (by simp; omega), e1, e2]
       simp only [Option.bind_some, Bool.true_and]
       split
       ·rename_i h; rw [decide_eq_true h]; simp
       ·rename_i h; rw [decide_eq_false h]; simp
theorem hn_eq (s : ByteArray) (hs : s.size ≤ 1099511627776) : ∃ F, spec_IsHeaderName.f F s = some (hnB s) := by
 obtain ⟨F, hF⟩ := hn_l0 (partsB 45 s) (by have := parts_len 45 s; omega) (fun p hp => by have := parts_size hp; omega) _ 0 rfl (by omega)
 refine ⟨max F (s.size + 2), ?_⟩
 have h1 := raise (f := fun F => spec_IsHeaderName.l0 F (partsB 45 s) ((partsB 45 s).length : Int) ((0 : Nat) : Int)) (fun F => (spec_IsHeaderName.mono_l F) _ _ _) (Nat.le_max_left F (s.size + 2)) hF
 have h2 : spec_split.f (max F (s.size + 2)) s 45 = some (partsB 45 s) := by
  have := split_eq2 45 s.size s [] (Nat.le_refl _) hs (by simp; omega) (max F (s.size + 2)) (Nat.le_max_right _ _)
  simpa [spec_split.f] using this
 unfold spec_IsHeaderName.f
 rw [h2]
 simp only [Option.bind_some]
 rw [List.drop_zero] at h1
 exact h1
end HH
end Go.Proofs.YtclmjmfcggkpaaaGreatDoor
namespace Go.Proofs.YtclmjmfcggkpaaaGreatDoor.PX
open Go.RowKit Go.Proofs.YtclmjmfcggkpaaaGreatDoorW.PrintWords Go.Proofs.YtclmjmfcggkpaaaGreatDoorW.PrintLast Go.Proofs.YtclmjmfcggkpaaaGreatDoorW.PrintMore
attribute [local go_sem] max2_int min2_int max_two min_two max_three min_three max_four min_four   -- for this text's walks alone
set_option linter.unusedVariables false
set_option linter.unusedSimpArgs false

/-! ### spec_headerKey: function 44 -/
def spec_headerKey.f (a0_0 : Int) (a0_1 : ByteArray) (a0_2 : ByteArray) (a0_3 : Int) (a0_4 : ByteArray) (a0_5 : Int) : Option (ByteArray) := if a0_0 ≥ 5 then (if a0_1.size + a0_2.size ≤ 9223372036854775807 then (some (a0_1 ++ a0_2)) else (none)) else (some a0_2)
set_option maxHeartbeats 8000000 in
set_option maxRecDepth 100000 in
theorem spec_headerKey.calls (a0_0 : Int) (a0_1 : ByteArray) (a0_2 : ByteArray) (a0_3 : Int) (a0_4 : ByteArray) (a0_5 : Int) (r : ByteArray) (w : World) (h : spec_headerKey.f a0_0 a0_1 a0_2 a0_3 a0_4 a0_5 = some r) :
 Calls Tryz.prog 44 #[.agg #[.int .i64 a0_0, .string a0_1, .string a0_2, .int .i64 a0_3, .string a0_4, .int .i64 a0_5]] w fun e w' => e = .returned (.string r) ∧ Below w.heap.size w w' := by
 have hu48 := Tryz.underlying48
 have HB := Aside0.mk (Below.refl w.heap.size w)
 have H : (if a0_0 ≥ 5 then (if a0_1.size + a0_2.size ≤ 9223372036854775807 then (some (a0_1 ++ a0_2)) else (none)) else (some a0_2)) = some r := h
 clear h
 by_cases c2 : a0_0 ≥ 5
 ·rw [if_pos c2] at H
  have c2b0 : decide (5 ≤ a0_0) = true := decide_eq_true c2
  clear c2
  by_cases c3 : a0_1.size + a0_2.size ≤ 9223372036854775807
  ·rw [if_pos c3] at H
   have c3b0 := eq_true c3
   have c3b1 : decide (a0_1.size + a0_2.size ≤ 9223372036854775807) = true := decide_eq_true c3
   try have c3b2 : (9223372036854775807 < a0_1.size + a0_2.size) = False := eq_false (Nat.not_lt.2 c3)
   obtain rfl := Option.some.inj H
   go_enter Tryz.func44, Tryz.ntmps44
   go_wp2_with (first | ((with_reducible refine gate_dst (N := 1) rfl ?_); refine box_event ?hg (N := 1) ?hd (cs := #[.int .i64 a0_0, .string a0_1, .string a0_2, .int .i64 a0_3, .string a0_4, .int .i64 a0_5]) (t := 48) ?hr ?_; (case hd => rfl); (case hg => rfl); (case hr => first | (go_simp; done) | (go_simp; rfl)); intro gb116 hg w4 hbox hb; have n0_ := Aside0.mk (below_step (by repeat ((with_reducible exact HB.out))) hb); have n1_ := Aside0.mk (hbox); have n2_ := Aside0.mk ((by rw [hg]; exact (below_size (by repeat ((with_reducible exact HB.out)))) : w.heap.size ≤ gb116)); have n3_ := Aside0.mk ((by rw [hg]; exact (below_size (by repeat ((with_reducible exact HB.out)))) : w.heap.size ≤ gb116)); clear HB; have HB := n0_; have BK116 := n1_; have GW116 := n2_; have GE116 := n3_; clear n0_ n1_ n2_ n3_; clear hb hbox hg; have hcz5_0 : w4.cell? ⟨gb116, 0, none⟩ = some (.int .i64 a0_0) := (blk_cell BK116.out 0).trans rfl; have hcz5_1 : w4.cell? ⟨gb116, 1, none⟩ = some (.string a0_1) := (blk_cell BK116.out 1).trans rfl; have hcz5_2 : w4.cell? ⟨gb116, 2, none⟩ = some (.string a0_2) := (blk_cell BK116.out 2).trans rfl; have hcz5_3 : w4.cell? ⟨gb116, 3, none⟩ = some (.int .i64 a0_3) := (blk_cell BK116.out 3).trans rfl; have hcz5_4 : w4.cell? ⟨gb116, 4, none⟩ = some (.string a0_4) := (blk_cell BK116.out 4).trans rfl; have hcz5_5 : w4.cell? ⟨gb116, 5, none⟩ = some (.int .i64 a0_5) := (blk_cell BK116.out 5).trans rfl; have hfz5_0 := blk_frozen BK116.out 0; have hfz5_1 := blk_frozen BK116.out 1; have hfz5_2 := blk_frozen BK116.out 2; have hfz5_3 := blk_frozen BK116.out 3; have hfz5_4 := blk_frozen BK116.out 4; have hfz5_5 := blk_frozen BK116.out 5))
   go_ret
   exact ⟨by rfl, by repeat ((with_reducible exact HB.out))⟩
  ·rw [if_neg c3] at H
   exact absurd H (by simp)
 ·rw [if_neg c2] at H
  have c2b0 : decide (5 ≤ a0_0) = false := decide_eq_false c2
  clear c2
  obtain rfl := Option.some.inj H
  go_enter Tryz.func44, Tryz.ntmps44
  go_wp2_with (first | ((with_reducible refine gate_dst (N := 1) rfl ?_); refine box_event ?hg (N := 1) ?hd (cs := #[.int .i64 a0_0, .string a0_1, .string a0_2, .int .i64 a0_3, .string a0_4, .int .i64 a0_5]) (t := 48) ?hr ?_; (case hd => rfl); (case hg => rfl); (case hr => first | (go_simp; done) | (go_simp; rfl)); intro gb116 hg w6 hbox hb; have n0_ := Aside0.mk (below_step (by repeat ((with_reducible exact HB.out))) hb); have n1_ := Aside0.mk (hbox); have n2_ := Aside0.mk ((by rw [hg]; exact (below_size (by repeat ((with_reducible exact HB.out)))) : w.heap.size ≤ gb116)); have n3_ := Aside0.mk ((by rw [hg]; exact (below_size (by repeat ((with_reducible exact HB.out)))) : w.heap.size ≤ gb116)); clear HB; have HB := n0_; have BK116 := n1_; have GW116 := n2_; have GE116 := n3_; clear n0_ n1_ n2_ n3_; clear hb hbox hg; have hcz7_0 : w6.cell? ⟨gb116, 0, none⟩ = some (.int .i64 a0_0) := (blk_cell BK116.out 0).trans rfl; have hcz7_1 : w6.cell? ⟨gb116, 1, none⟩ = some (.string a0_1) := (blk_cell BK116.out 1).trans rfl; have hcz7_2 : w6.cell? ⟨gb116, 2, none⟩ = some (.string a0_2) := (blk_cell BK116.out 2).trans rfl; have hcz7_3 : w6.cell? ⟨gb116, 3, none⟩ = some (.int .i64 a0_3) := (blk_cell BK116.out 3).trans rfl; have hcz7_4 : w6.cell? ⟨gb116, 4, none⟩ = some (.string a0_4) := (blk_cell BK116.out 4).trans rfl; have hcz7_5 : w6.cell? ⟨gb116, 5, none⟩ = some (.int .i64 a0_5) := (blk_cell BK116.out 5).trans rfl; have hfz7_0 := blk_frozen BK116.out 0; have hfz7_1 := blk_frozen BK116.out 1; have hfz7_2 := blk_frozen BK116.out 2; have hfz7_3 := blk_frozen BK116.out 3; have hfz7_4 := blk_frozen BK116.out 4; have hfz7_5 := blk_frozen BK116.out 5))
  go_ret
  exact ⟨by rfl, by repeat ((with_reducible exact HB.out))⟩

end Go.Proofs.YtclmjmfcggkpaaaGreatDoor.PX
set_option linter.unusedVariables false
set_option linter.unusedSimpArgs false
namespace Go.Proofs.YtclmjmfcggkpaaaGreatDoor
open Go.RowKit Go.Proofs.YtclmjmfcggkpaaaGreatDoorW.PrintWords Go.Proofs.YtclmjmfcggkpaaaGreatDoorW.PrintLast Go.Proofs.YtclmjmfcggkpaaaGreatDoorW.PrintMore
open PX
namespace HH
open H
theorem take_nodup_step {α : Type} [DecidableEq α] (l : List α) (k : Nat) (h : k < l.length) (h1 : (l.take k).Nodup) (h2 : ∀ j : Nat, j < k → l[j]? ≠ l[k]?) : (l.take (k + 1)).Nodup := by
 rw [List.take_succ_eq_append_getElem h, List.nodup_append]
 refine ⟨h1, by simp, ?_⟩
 intro a ha b hb
 obtain rfl : b = l[k] := by simpa using hb
 rintro rfl
 obtain ⟨j, hj, e⟩ := List.mem_iff_getElem.1 ha
 simp only [List.length_take] at hj
 refine h2 j (by omega) ?_
 rw [List.getElem?_eq_getElem h, ← e, List.getElem_take, List.getElem?_eq_getElem]
set_option maxHeartbeats 400000 in
set_option maxRecDepth 100000 in
theorem unlike_call (A0 : Option Addr) (c0 : Nat) (l : List ByteArray) (w : World) (hr : Kd.C Kd.string w A0 l.length l) (hc : l.length ≤ c0) :
 Calls Tryz.prog 43 #[.slice A0 l.length c0] w fun e w' => e = .returned (.bool (decide l.Nodup)) ∧ Drawn0 w w' := by
 have hl : l.length ≤ 9223372036854775807 := hr.2.1
 have HR := Aside0.mk hr
 clear hr
 go_enter Tryz.func43, Tryz.ntmps43
 go_wp2
 go_loopg [9] l.length (fun g v9 w' => ∃ k : Nat, k ≤ l.length ∧ v9 = .int .i64 k ∧ Aside0 (g = l.length - k) ∧ Aside0 (l.take k).Nodup ∧ Aside0 (w' = w))
 case atStart => exact ⟨0, Nat.zero_le _, rfl, ⟨by omega⟩, ⟨by simp⟩, ⟨rfl⟩⟩
 case round =>
  obtain ⟨k, hk, rfl, hg, hn, hw⟩ := hrel
  obtain rfl := hw.out
  clear hw
  rcases Nat.lt_or_ge k l.length with hlt | hge
  ·obtain ⟨ad, hA, hx⟩ := Kd.at_string HR.out (k : Int) (by omega) (by omega)
   subst hA
   simp only [Int.toNat_natCast] at hx
   have hkc : k ≤ c0 := by omega
   go_wp2_with fail
   have hek : l[k]? = some (rdOf ByteArray.empty l (k : Int)) := by simp [rdOf, List.getElem?_eq_getElem hlt, hlt]
   generalize rdOf ByteArray.empty l (k : Int) = a at *
   replace hek := Aside0.mk hek
   go_loopg [18] k (fun g v18 w' => ∃ j : Nat, j ≤ k ∧ v18 = .int .i64 j ∧ Aside0 (g = k - j) ∧ Aside0 (∀ m : Nat, m < j → l[m]? ≠ l[k]?) ∧ Aside0 (w' = wr))
   case atStart => exact ⟨0, Nat.zero_le _, rfl, ⟨by omega⟩, ⟨fun m hm => by omega⟩, ⟨rfl⟩⟩
   case round =>
    obtain ⟨j, hj, rfl, hg2, hno, hw⟩ := hrel
    have hw := hw.out
    subst hw
    rcases Nat.lt_or_ge j k with hjlt | hjge
    ·obtain ⟨ad', hA, hy⟩ := Kd.at_string HR.out (j : Int) (by omega) (by omega)
     cases hA
     simp only [Int.toNat_natCast] at hy
     have hej : l[j]? = some (rdOf ByteArray.empty l (j : Int)) := by simp [rdOf, List.getElem?_eq_getElem (show j < l.length by omega), show j < l.length by omega]
     generalize rdOf ByteArray.empty l (j : Int) = b at *
     replace hej := Aside0.mk hej
     by_cases e : b = a
     ·have hnn : decide l.Nodup = false := decide_eq_false (fun hd => by
       have h3 := (List.pairwise_iff_getElem.1 hd) j k (by omega) hlt hjlt
       have h1 := hej.out
       have h2 := hek.out
       rw [List.getElem?_eq_getElem (show j < l.length by omega)] at h1
       rw [List.getElem?_eq_getElem hlt] at h2
       injection h1 with h1
       injection h2 with h2
       exact h3 (by rw [h1, h2, e]))
      subst e
      clear hx
      go_wp2
      go_ret
      exact ⟨rfl, Drawn0.refl _⟩
     ·have e1 : (b.toList == a.toList) = false := by
       rw [beq_eq_false_iff_ne, Ne, ByteArray.toList_eq, ByteArray.toList_eq]
       intro h
       exact e (by cases a; cases b; congr 1; exact Array.ext' h)
      have hno' : Aside0 (∀ m : Nat, m < j + 1 → l[m]? ≠ l[k]?) := ⟨fun m hm => by
       rcases Nat.lt_or_ge m j with h | h
       ·exact hno.out m h
       ·obtain rfl : m = j := by omega
        rw [hej.out, hek.out]
        exact fun h => e (Option.some.inj h)⟩
      go_wp2
      go_roundg (k - (j + 1))
      case measure => have := hg2.out; omega
      case rel => exact ⟨j + 1, by omega, by go_num, ⟨rfl⟩, hno', ⟨rfl⟩⟩
    ·obtain rfl : j = k := by omega
     have hn' : Aside0 (l.take (j + 1)).Nodup := ⟨take_nodup_step l j hlt hn.out hno.out⟩
     go_wp2
     go_roundg (l.length - (j + 1))
     case measure => have := hg.out; omega
     case rel => exact ⟨j + 1, by omega, by go_num, ⟨rfl⟩, hn', ⟨rfl⟩⟩
  ·obtain rfl : k = l.length := by omega
   rw [List.take_length] at hn
   go_wp2
   go_ret
   exact ⟨by rw [decide_eq_true hn.out]; rfl, Drawn0.refl _⟩
end HH
namespace PX
def spec_areUnlike.f (k : Nat) (l0 : List ByteArray) : Option Bool := some (decide l0.Nodup)
theorem spec_areUnlike.mono : ∀ l0 k, LeO (spec_areUnlike.f k l0) (spec_areUnlike.f (k + 1) l0) := fun _ _ => LeO.refl _
theorem spec_areUnlike.calls (k : Nat) (A0 : Option Addr) (c0 : Nat) (l0 : List ByteArray) (r : Bool) (w : World) (hr0 : Kd.C Kd.string w A0 l0.length l0) (hc0 : l0.length ≤ c0) (h : spec_areUnlike.f k l0 = some r) :
 Calls Tryz.prog 43 #[.slice A0 l0.length c0] w fun e w' => e = .returned (.bool r) ∧ Drawn0 w w' := by
 obtain rfl := Option.some.inj h
 exact HH.unlike_call A0 c0 l0 w hr0 hc0
end PX
end Go.Proofs.YtclmjmfcggkpaaaGreatDoor
