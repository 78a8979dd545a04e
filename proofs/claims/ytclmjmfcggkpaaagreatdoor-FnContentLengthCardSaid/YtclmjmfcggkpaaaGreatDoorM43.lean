import Derived.Test.YtclmjmfcggkpaaaGreatDoorM6
import Derived.Test.YtclmjmfcggkpaaaGreatDoorM36
namespace Go.Proofs.YtclmjmfcggkpaaaGreatDoor.PX
open Go.RowKit Go.Proofs.YtclmjmfcggkpaaaGreatDoorW.PrintWords Go.Proofs.YtclmjmfcggkpaaaGreatDoorW.PrintLast Go.Proofs.YtclmjmfcggkpaaaGreatDoorW.PrintMore
attribute [local go_sem] max2_int min2_int max_two min_two max_three min_three max_four min_four   -- for this text's walks alone
set_option linter.unusedVariables false
set_option linter.unusedSimpArgs false

/-! ### spec_headerKey: function 44 -/
def spec_headerKey.f (a0_0 : Int) (a0_1 : ByteArray) (a0_2 : ByteArray) (a0_3 : Int) (a0_4 : ByteArray) (a0_5 : Int) : Option (ByteArray) := if a0_0 ≥ 5 then (if a0_1.size + a0_2.size ≤ 9223372036854775807 then (some (a0_1 ++ a0_2)) else (none)) else (some a0_2)
set_option maxHeartbeats 8000000 in
set_option maxRecDepth 100000 in
theorem spec_headerKey.calls (a0_0 : Int) (a0_1 : ByteArray) (a0_2 : ByteArray) (a0_3 : Int) (a0_4 : ByteArray) (a0_5 : Int) (r : ByteArray) (w : World) (h : spec_headerKey.f a0_0 a0_1 a0_2 a0_3 a0_4 a0_5 = some r) :
    Calls Tryz.prog 44 #[.agg #[.int .i64 a0_0, .string a0_1, .string a0_2, .int .i64 a0_3, .string a0_4, .int .i64 a0_5]] w fun e w' => e = .returned (.string r) ∧ Below w.heap.size w w' := by
  have hu48 := Tryz.underlying48
  have HB := Aside0.mk (Below.refl w.heap.size w)
  have H : (if a0_0 ≥ 5 then (if a0_1.size + a0_2.size ≤ 9223372036854775807 then (some (a0_1 ++ a0_2)) else (none)) else (some a0_2)) = some r := h
  clear h
  by_cases c2 : a0_0 ≥ 5
  · rw [if_pos c2] at H
    have c2b0 : decide (5 ≤ a0_0) = true := decide_eq_true c2
    clear c2
    by_cases c3 : a0_1.size + a0_2.size ≤ 9223372036854775807
    · rw [if_pos c3] at H
      have c3b0 := eq_true c3
      have c3b1 : decide (a0_1.size + a0_2.size ≤ 9223372036854775807) = true := decide_eq_true c3
      try have c3b2 : (9223372036854775807 < a0_1.size + a0_2.size) = False := eq_false (Nat.not_lt.2 c3)
      obtain rfl := Option.some.inj H
      go_enter Tryz.func44, Tryz.ntmps44
      go_wp2_with (first | ((with_reducible refine gate_dst (N := 1) rfl ?_); refine box_event ?hg (N := 1) ?hd (cs := #[.int .i64 a0_0, .string a0_1, .string a0_2, .int .i64 a0_3, .string a0_4, .int .i64 a0_5]) (t := 48) ?hr ?_; (case hd => rfl); (case hg => rfl); (case hr => first | (go_simp; done) | (go_simp; rfl)); intro gb116 hg w4 hbox hb; have n0_ := Aside0.mk (below_step (by repeat (first | (with_reducible first | exact HB.out | apply below_alloc | apply pw_below_drewN | apply below_drew1) | exact HB.out)) hb); have n1_ := Aside0.mk (hbox); have n2_ := Aside0.mk ((by rw [hg]; exact (below_size (by repeat (first | (with_reducible first | exact HB.out | apply below_alloc | apply pw_below_drewN | apply below_drew1) | exact HB.out))) : w.heap.size ≤ gb116)); have n3_ := Aside0.mk ((by rw [hg]; exact (below_size (by repeat (first | (with_reducible first | exact HB.out | apply below_alloc | apply pw_below_drewN | apply below_drew1) | exact HB.out))) : w.heap.size ≤ gb116)); clear HB; have HB := n0_; have BK116 := n1_; have GW116 := n2_; have GE116 := n3_; clear n0_ n1_ n2_ n3_; clear hb hbox hg; have hcz5_0 : w4.cell? ⟨gb116, 0, none⟩ = some (.int .i64 a0_0) := (blk_cell BK116.out 0).trans rfl; have hcz5_1 : w4.cell? ⟨gb116, 1, none⟩ = some (.string a0_1) := (blk_cell BK116.out 1).trans rfl; have hcz5_2 : w4.cell? ⟨gb116, 2, none⟩ = some (.string a0_2) := (blk_cell BK116.out 2).trans rfl; have hcz5_3 : w4.cell? ⟨gb116, 3, none⟩ = some (.int .i64 a0_3) := (blk_cell BK116.out 3).trans rfl; have hcz5_4 : w4.cell? ⟨gb116, 4, none⟩ = some (.string a0_4) := (blk_cell BK116.out 4).trans rfl; have hcz5_5 : w4.cell? ⟨gb116, 5, none⟩ = some (.int .i64 a0_5) := (blk_cell BK116.out 5).trans rfl; have hfz5_0 := blk_frozen BK116.out 0; have hfz5_1 := blk_frozen BK116.out 1; have hfz5_2 := blk_frozen BK116.out 2; have hfz5_3 := blk_frozen BK116.out 3; have hfz5_4 := blk_frozen BK116.out 4; have hfz5_5 := blk_frozen BK116.out 5))
      go_ret
      exact ⟨by first | rfl | (simp [errW_none, errW_some] <;> rfl) | (simp [*, errW_none, errW_some] <;> rfl), by repeat (first | (with_reducible first | exact HB.out | apply below_alloc | apply pw_below_drewN | apply below_drew1 | refine below_set ?_ GE116.out) | exact HB.out)⟩
    · rw [if_neg c3] at H
      exact absurd H (by simp)
  · rw [if_neg c2] at H
    have c2b0 : decide (5 ≤ a0_0) = false := decide_eq_false c2
    clear c2
    obtain rfl := Option.some.inj H
    go_enter Tryz.func44, Tryz.ntmps44
    go_wp2_with (first | ((with_reducible refine gate_dst (N := 1) rfl ?_); refine box_event ?hg (N := 1) ?hd (cs := #[.int .i64 a0_0, .string a0_1, .string a0_2, .int .i64 a0_3, .string a0_4, .int .i64 a0_5]) (t := 48) ?hr ?_; (case hd => rfl); (case hg => rfl); (case hr => first | (go_simp; done) | (go_simp; rfl)); intro gb116 hg w6 hbox hb; have n0_ := Aside0.mk (below_step (by repeat (first | (with_reducible first | exact HB.out | apply below_alloc | apply pw_below_drewN | apply below_drew1) | exact HB.out)) hb); have n1_ := Aside0.mk (hbox); have n2_ := Aside0.mk ((by rw [hg]; exact (below_size (by repeat (first | (with_reducible first | exact HB.out | apply below_alloc | apply pw_below_drewN | apply below_drew1) | exact HB.out))) : w.heap.size ≤ gb116)); have n3_ := Aside0.mk ((by rw [hg]; exact (below_size (by repeat (first | (with_reducible first | exact HB.out | apply below_alloc | apply pw_below_drewN | apply below_drew1) | exact HB.out))) : w.heap.size ≤ gb116)); clear HB; have HB := n0_; have BK116 := n1_; have GW116 := n2_; have GE116 := n3_; clear n0_ n1_ n2_ n3_; clear hb hbox hg; have hcz7_0 : w6.cell? ⟨gb116, 0, none⟩ = some (.int .i64 a0_0) := (blk_cell BK116.out 0).trans rfl; have hcz7_1 : w6.cell? ⟨gb116, 1, none⟩ = some (.string a0_1) := (blk_cell BK116.out 1).trans rfl; have hcz7_2 : w6.cell? ⟨gb116, 2, none⟩ = some (.string a0_2) := (blk_cell BK116.out 2).trans rfl; have hcz7_3 : w6.cell? ⟨gb116, 3, none⟩ = some (.int .i64 a0_3) := (blk_cell BK116.out 3).trans rfl; have hcz7_4 : w6.cell? ⟨gb116, 4, none⟩ = some (.string a0_4) := (blk_cell BK116.out 4).trans rfl; have hcz7_5 : w6.cell? ⟨gb116, 5, none⟩ = some (.int .i64 a0_5) := (blk_cell BK116.out 5).trans rfl; have hfz7_0 := blk_frozen BK116.out 0; have hfz7_1 := blk_frozen BK116.out 1; have hfz7_2 := blk_frozen BK116.out 2; have hfz7_3 := blk_frozen BK116.out 3; have hfz7_4 := blk_frozen BK116.out 4; have hfz7_5 := blk_frozen BK116.out 5))
    go_ret
    exact ⟨by first | rfl | (simp [errW_none, errW_some] <;> rfl) | (simp [*, errW_none, errW_some] <;> rfl), by repeat (first | (with_reducible first | exact HB.out | apply below_alloc | apply pw_below_drewN | apply below_drew1 | refine below_set ?_ GE116.out) | exact HB.out)⟩

end Go.Proofs.YtclmjmfcggkpaaaGreatDoor.PX
set_option linter.unusedVariables false
set_option linter.unusedSimpArgs false
namespace Go.Proofs.YtclmjmfcggkpaaaGreatDoor
open Go.RowKit Go.Proofs.YtclmjmfcggkpaaaGreatDoorW.PrintWords Go.Proofs.YtclmjmfcggkpaaaGreatDoorW.PrintLast Go.Proofs.YtclmjmfcggkpaaaGreatDoorW.PrintMore
open PX
namespace HH
open H
theorem take_nodup_step {α : Type} [DecidableEq α] (l : List α) (k : Nat) (h : k < l.length) (h1 : (l.take k).Nodup) (h2 : ∀ j : Nat, j < k → l[j]? ≠ l[k]?) : (l.take (k + 1)).Nodup := by
  rw [List.take_succ_eq_append_getElem h, List.nodup_append]
  refine ⟨h1, by simp, ?_⟩
  intro a ha b hb
  obtain rfl : b = l[k] := by simpa using hb
  rintro rfl
  obtain ⟨j, hj, e⟩ := List.mem_iff_getElem.1 ha
  simp only [List.length_take] at hj
  refine h2 j (by omega) ?_
  rw [List.getElem?_eq_getElem h, ← e, List.getElem_take, List.getElem?_eq_getElem]
set_option maxHeartbeats 400000 in
set_option maxRecDepth 100000 in
theorem unlike_call (A0 : Option Addr) (c0 : Nat) (l : List ByteArray) (w : World) (hr : Kd.C Kd.string w A0 l.length l) (hc : l.length ≤ c0) :
    Calls Tryz.prog 43 #[.slice A0 l.length c0] w fun e w' => e = .returned (.bool (decide l.Nodup)) ∧ Drawn0 w w' := by
  have hl : l.length ≤ 9223372036854775807 := hr.2.1
  have HR := Aside0.mk hr
  clear hr
  go_enter Tryz.func43, Tryz.ntmps43
  go_wp2
  go_loopg [9] l.length (fun g v9 w' => ∃ k : Nat, k ≤ l.length ∧ v9 = .int .i64 k ∧ Aside0 (g = l.length - k) ∧ Aside0 (l.take k).Nodup ∧ Aside0 (w' = w))
  case atStart => exact ⟨0, Nat.zero_le _, rfl, ⟨by omega⟩, ⟨by simp⟩, ⟨rfl⟩⟩
  case round =>
    obtain ⟨k, hk, rfl, hg, hn, hw⟩ := hrel
    obtain rfl := hw.out
    clear hw
    rcases Nat.lt_or_ge k l.length with hlt | hge
    · obtain ⟨ad, hA, hx⟩ := Kd.at_string HR.out (k : Int) (by omega) (by omega)
      subst hA
      simp only [Int.toNat_natCast] at hx
      have hkc : k ≤ c0 := by omega
      go_wp2_with fail
      have hek : l[k]? = some (rdOf ByteArray.empty l (k : Int)) := by simp [rdOf, List.getElem?_eq_getElem hlt, hlt]
      generalize rdOf ByteArray.empty l (k : Int) = a at *
      replace hek := Aside0.mk hek
      go_loopg [18] k (fun g v18 w' => ∃ j : Nat, j ≤ k ∧ v18 = .int .i64 j ∧ Aside0 (g = k - j) ∧ Aside0 (∀ m : Nat, m < j → l[m]? ≠ l[k]?) ∧ Aside0 (w' = wr))
      case atStart => exact ⟨0, Nat.zero_le _, rfl, ⟨by omega⟩, ⟨fun m hm => by omega⟩, ⟨rfl⟩⟩
      case round =>
        obtain ⟨j, hj, rfl, hg2, hno, hw⟩ := hrel
        have hw := hw.out
        subst hw
        rcases Nat.lt_or_ge j k with hjlt | hjge
        · obtain ⟨ad', hA, hy⟩ := Kd.at_string HR.out (j : Int) (by omega) (by omega)
          cases hA
          simp only [Int.toNat_natCast] at hy
          have hej : l[j]? = some (rdOf ByteArray.empty l (j : Int)) := by simp [rdOf, List.getElem?_eq_getElem (show j < l.length by omega), show j < l.length by omega]
          generalize rdOf ByteArray.empty l (j : Int) = b at *
          replace hej := Aside0.mk hej
          by_cases e : b = a
          · have hnn : decide l.Nodup = false := decide_eq_false (fun hd => by
              have h3 := (List.pairwise_iff_getElem.1 hd) j k (by omega) hlt hjlt
              have h1 := hej.out
              have h2 := hek.out
              rw [List.getElem?_eq_getElem (show j < l.length by omega)] at h1
              rw [List.getElem?_eq_getElem hlt] at h2
              injection h1 with h1
              injection h2 with h2
              exact h3 (by rw [h1, h2, e]))
            subst e
            clear hx
            go_wp2
            go_ret
            exact ⟨rfl, Drawn0.refl _⟩
          · have e1 : (b.toList == a.toList) = false := by
              rw [beq_eq_false_iff_ne, Ne, ByteArray.toList_eq, ByteArray.toList_eq]
              intro h
              exact e (by cases a; cases b; congr 1; exact Array.ext' h)
            have hno' : Aside0 (∀ m : Nat, m < j + 1 → l[m]? ≠ l[k]?) := ⟨fun m hm => by
              rcases Nat.lt_or_ge m j with h | h
              · exact hno.out m h
              · obtain rfl : m = j := by omega
                rw [hej.out, hek.out]
                exact fun h => e (Option.some.inj h)⟩
            go_wp2
            go_roundg (k - (j + 1))
            case measure => have := hg2.out; omega
            case rel => exact ⟨j + 1, by omega, by go_num, ⟨rfl⟩, hno', ⟨rfl⟩⟩
        · obtain rfl : j = k := by omega
          have hn' : Aside0 (l.take (j + 1)).Nodup := ⟨take_nodup_step l j hlt hn.out hno.out⟩
          go_wp2
          go_roundg (l.length - (j + 1))
          case measure => have := hg.out; omega
          case rel => exact ⟨j + 1, by omega, by go_num, ⟨rfl⟩, hn', ⟨rfl⟩⟩
    · obtain rfl : k = l.length := by omega
      rw [List.take_length] at hn
      go_wp2
      go_ret
      exact ⟨by rw [decide_eq_true hn.out]; rfl, Drawn0.refl _⟩
end HH
namespace PX
def spec_areUnlike.f (k : Nat) (l0 : List ByteArray) : Option Bool := some (decide l0.Nodup)
theorem spec_areUnlike.mono : ∀ l0 k, LeO (spec_areUnlike.f k l0) (spec_areUnlike.f (k + 1) l0) := fun _ _ => LeO.refl _
theorem spec_areUnlike.calls (k : Nat) (A0 : Option Addr) (c0 : Nat) (l0 : List ByteArray) (r : Bool) (w : World) (hr0 : Kd.C Kd.string w A0 l0.length l0) (hc0 : l0.length ≤ c0) (h : spec_areUnlike.f k l0 = some r) :
    Calls Tryz.prog 43 #[.slice A0 l0.length c0] w fun e w' => e = .returned (.bool r) ∧ Drawn0 w w' := by
  obtain rfl := Option.some.inj h
  exact HH.unlike_call A0 c0 l0 w hr0 hc0
end PX
end Go.Proofs.YtclmjmfcggkpaaaGreatDoor
