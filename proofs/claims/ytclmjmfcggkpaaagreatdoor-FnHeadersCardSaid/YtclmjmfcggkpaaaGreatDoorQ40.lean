import Derived.Test.YtclmjmfcggkpaaaGreatDoorQ31
import Derived.Test.YtclmjmfcggkpaaaGreatDoorQ39
import Derived.Test.YtclmjmfcggkpaaaGreatDoorQ5
set_option linter.unusedVariables false
set_option linter.unusedSimpArgs false
namespace Go.Proofs.YtclmjmfcggkpaaaGreatDoor
open Go.RowKit Go.Proofs.YtclmjmfcggkpaaaGreatDoorW.PrintWords Go.Proofs.YtclmjmfcggkpaaaGreatDoorW.PrintLast Go.Proofs.YtclmjmfcggkpaaaGreatDoorW.PrintMore
open PX
namespace HH
open H
/-! ### spec.HeadersOf: headers that were there -/
def putB (L : List S73) (h : S73) : List S73 := putH L h.f0 h.f1 false
theorem fold_take {α β : Type} (f : β → α → β) (b : β) {l : List α} {k : Nat} {a : α} (h : l[k]? = some a) : (l.take (k + 1)).foldl f b = f ((l.take k).foldl f b) a := by
 have hl := (List.getElem?_eq_some_iff.1 h).1
 rw [List.take_succ_eq_append_getElem hl, (List.getElem?_eq_some_iff.1 h).2, List.foldl_append]
 rfl
theorem insH_len (L : List S73) (x : S73) : (insH L x).length = L.length + 1 := by
 induction L with
 | nil => simp [insH, below]
 | cons a L ih =>
   rw [insH_cons]
   split
   ·simp [ih]
   ·simp
theorem putH_len (L : List S73) (k : ByteArray) (vs : List ByteArray) (add : Bool) : (putH L k vs add).length ≤ L.length + 1 := by
 unfold putH
 split
 ·split
  ·simp
  ·rw [insH_len]; exact Nat.le_refl _
 ·rw [insH_len]; exact Nat.le_refl _
theorem putH_val {L : List S73} {k : ByteArray} {vs : List ByteArray} {add : Bool} {N : Nat} (h : ∀ a ∈ L, a.f1.length ≤ N) : ∀ a ∈ putH L k vs add, a.f1.length ≤ N + vs.length := by
 intro a ha
 unfold putH at ha
 split at ha
 ·rename_i b hb
  split at ha
  ·rcases List.mem_or_eq_of_mem_set ha with ha | rfl
   ·have := h a ha; omega
   ·have := h b (List.mem_of_getElem? hb)
    cases add <;> simp <;> omega
  ·rcases insH_mem.1 ha with rfl | ha
   ·simp
   ·have := h a ha; omega
 ·rcases insH_mem.1 ha with rfl | ha
  ·simp
  ·have := h a ha; omega
structure Ok3 (L : List S73) (n N : Nat) : Prop where
 s : srt L
 n : L.length ≤ n
 v : ∀ a ∈ L, a.f1.length ≤ N
theorem Ok3.put {L : List S73} {n N : Nat} (h : Ok3 L n N) (k : ByteArray) (vs : List ByteArray) (add : Bool) : Ok3 (putH L k vs add) (n + 1) (N + vs.length) :=
 ⟨putH_srt h.s, Nat.le_trans (putH_len _ _ _ _) (Nat.add_le_add_right h.n 1), putH_val h.v⟩
theorem Ok3.mono {L : List S73} {n N n' N' : Nat} (h : Ok3 L n N) (h1 : n ≤ n') (h2 : N ≤ N') : Ok3 L n' N' := ⟨h.s, Nat.le_trans h.n h1, fun a ha => Nat.le_trans (h.v a ha) h2⟩
theorem ok3_bef (bef : List S73) (hbl : ∀ h ∈ bef, h.f1.length ≤ 100) : ∀ k, k ≤ bef.length → Ok3 ((bef.take k).foldl putB []) k (k * 100) := by
 intro k
 induction k with
 | zero => intro _; exact ⟨List.Pairwise.nil, Nat.le_refl _, fun _ h => by cases h⟩
 | succ k ih =>
   intro hk
   rw [fold_take putB [] (List.getElem?_eq_getElem (show k < bef.length by omega))]
   exact ((ih (by omega)).put _ _ _).mono (Nat.le_refl _) (by have := hbl bef[k] (List.getElem_mem _); omega)
theorem row73_new (w : World) : SO w.heap.size (.slice (some ⟨w.heap.size, 0, none⟩) 0 0) [] (w.alloc (.cells #[] 73)) := by
 refine ⟨?_, fun _ h => by cases h⟩
 have h2 := World.ownsRow_lit (base := w.heap.size) (e := 73) (size := 2) w #[] 0 (Nat.le_refl _) (by simp [maxLen]) (by simp)
 simpa [flat] using h2
end HH
end Go.Proofs.YtclmjmfcggkpaaaGreatDoor
namespace Go.Proofs.YtclmjmfcggkpaaaGreatDoor.PX
open Go.RowKit Go.Proofs.YtclmjmfcggkpaaaGreatDoorW.PrintWords Go.Proofs.YtclmjmfcggkpaaaGreatDoorW.PrintLast Go.Proofs.YtclmjmfcggkpaaaGreatDoorW.PrintMore
attribute [local go_sem] max2_int min2_int max_two min_two max_three min_three max_four min_four   -- for this text's walks alone
set_option linter.unusedVariables false
set_option linter.unusedSimpArgs false

/-! ### laws_zzFits7: function 89 -/
def laws_zzFits7.l0 : Nat → List ByteArray → Int → Int → Option (Bool)
 | 0, _, _, _ => none
 | k + 1, x8, x9, x10 => if x10 < x9 then (if 0 ≤ x10 then (if x10 < (x8.length : Int) then (if ((rdOf ByteArray.empty x8 x10).size : Int) > 2147483647 then (some false) else (laws_zzFits7.l0 k x8 x9 (wrap64 (x10 + 1)))) else (none)) else (none)) else (some true)
def laws_zzFits7.f (k : Nat) (l0 : List ByteArray) : Option (Bool) := if (l0.length : Int) > 2147483647 then (some false) else (laws_zzFits7.l0 k l0 (l0.length : Int) 0)
theorem laws_zzFits7.mono_l : ∀ k, (∀ y0 y1 y2, LeO (laws_zzFits7.l0 k y0 y1 y2) (laws_zzFits7.l0 (k + 1) y0 y1 y2))
 | 0 => fun _ _ _ r h => by simp [laws_zzFits7.l0] at h
 | k + 1 => by
   have ih0 := laws_zzFits7.mono_l k
   ·intro y0 y1 y2
    unfold laws_zzFits7.l0
    repeat' first
    | (with_reducible exact ih0 _ _ _)
    | (with_reducible exact LeO.refl _)
    | (with_reducible exact LeO.none _)
    | (with_reducible refine LeO.ite ?_ ?_)
    | (with_reducible refine LeO.bind ?_ (fun _ => ?_))
    | exact ih0 _ _ _
    | exact LeO.none _
    | refine LeO.ite ?_ ?_
    | refine LeO.bind ?_ (fun _ => ?_)
theorem laws_zzFits7.mono : ∀ a0 k, LeO (laws_zzFits7.f k a0) (laws_zzFits7.f (k + 1) a0) := by
 intro a0 k
 have ih0 := laws_zzFits7.mono_l k
 unfold laws_zzFits7.f
 repeat' first
  | (with_reducible exact ih0 _ _ _)
  | (with_reducible exact LeO.refl _)
  | (with_reducible exact LeO.none _)
  | (with_reducible refine LeO.ite ?_ ?_)
  | (with_reducible refine LeO.bind ?_ (fun _ => ?_))
  | exact ih0 _ _ _
  | exact LeO.none _
  | refine LeO.ite ?_ ?_
  | refine LeO.bind ?_ (fun _ => ?_)
set_option maxHeartbeats 8000000 in
set_option maxRecDepth 100000 in
theorem laws_zzFits7.calls (k : Nat) (A0 : Option Addr) (c0 : Nat) (l0 : List ByteArray) (r : Bool) (w : World) (hr0 : Kd.C Kd.string w A0 l0.length l0) (hc0 : l0.length ≤ c0) (h : laws_zzFits7.f k l0 = some r) :
 Calls Tryz.prog 89 #[.slice A0 l0.length c0] w fun e w' => e = .returned (.bool r) ∧ Drawn0 w w' := by
 have HR0 := Aside0.mk hr0
 have HC0 := Aside0.mk hc0
 clear hr0 hc0
 have H : (if (l0.length : Int) > 2147483647 then (some false) else (laws_zzFits7.l0 k l0 (l0.length : Int) 0)) = some r := h
 clear h
 by_cases c2 : (l0.length : Int) > 2147483647
 ·rw [if_pos c2] at H
  have c2b0 : decide (2147483647 < (l0.length : Int)) = true := decide_eq_true c2
  have c2b1 : decide (2147483647 < l0.length) = true := decide_eq_true (by omega)
  clear c2
  obtain rfl := Option.some.inj H
  go_enter Tryz.func89, Tryz.ntmps89
  go_wp2
  go_ret
  exact ⟨by first | rfl | (simp; done) | (simp [*]; done), by repeat (first | exact Drawn0.refl _ | apply Drawn0.step)⟩
 ·rw [if_neg c2] at H
  have c2b0 : decide (2147483647 < (l0.length : Int)) = false := decide_eq_false c2
  have c2b1 : decide (2147483647 < l0.length) = false := decide_eq_false (by omega)
  clear c2
  have H' := Aside0.mk H
  clear H
  go_enter Tryz.func89, Tryz.ntmps89
  go_wp2
  go_loopg [10] k (fun kq v10 w' => ∃ (x10_1 : Int), v10 = .int .i64 x10_1 ∧ Aside0 (laws_zzFits7.l0 kq l0 (l0.length : Int) x10_1 = some r) ∧ Aside0 (kq ≤ k) ∧ Drawn0 w w')
  case atStart => exact ⟨(0), (by first | rfl | (simp; done) | (simp [*]; done)), H', ⟨Nat.le_refl _⟩, by repeat (first | exact Drawn0.refl _ | apply Drawn0.step)⟩
  case round =>
   clear H'
   try clear c2
   try clear c2b0
   try clear c2b1
   try clear p2
   obtain ⟨x10_1, rfl, HA, HK1, ⟨m1, rfl⟩⟩ := hrel
   cases gk with
   | zero => exact absurd HA.out (by simp [laws_zzFits7.l0])
   | succ k1 =>
     have H := HA.out
     clear HA
     simp only [laws_zzFits7.l0] at H
     by_cases c3 : x10_1 < (l0.length : Int)
     ·rw [if_pos c3] at H
      have c3b0 : decide (x10_1 < (l0.length : Int)) = true := decide_eq_true c3
      clear c3
      by_cases c4 : 0 ≤ x10_1
      ·rw [if_pos c4] at H
       have c4b0 : decide (0 ≤ x10_1) = true := decide_eq_true c4
       clear c4
       by_cases c5 : x10_1 < (l0.length : Int)
       ·rw [if_pos c5] at H
        have c5b0 : decide (x10_1 < (l0.length : Int)) = true := decide_eq_true c5
        clear c5
        by_cases c6 : ((rdOf ByteArray.empty l0 x10_1).size : Int) > 2147483647
        ·rw [if_pos c6] at H
         have c6b0 : decide (2147483647 < ((rdOf ByteArray.empty l0 x10_1).size : Int)) = true := decide_eq_true c6
         have c6b1 : decide (2147483647 < (rdOf ByteArray.empty l0 x10_1).size) = true := decide_eq_true (by omega)
         clear c6
         obtain rfl := Option.some.inj H
         have p290 : 0 ≤ (x10_1 : Int) := of_decide_eq_true (by first | (with_reducible assumption) | assumption)
         have q290 : x10_1 < (l0.length : Int) := of_decide_eq_true (by first | (with_reducible assumption) | assumption)
         obtain ⟨ad290, e290, hx290_0⟩ := Kd.at_string HR0.out x10_1 p290 q290
         cases e290
         replace p290 := eq_true p290
         replace q290 := eq_true q290
         go_wp2
         go_ret
         exact ⟨by first | rfl | (simp; done) | (simp [*]; done), by repeat (first | exact Drawn0.refl _ | apply Drawn0.step)⟩
        ·rw [if_neg c6] at H
         have c6b0 : decide (2147483647 < ((rdOf ByteArray.empty l0 x10_1).size : Int)) = false := decide_eq_false c6
         have c6b1 : decide (2147483647 < (rdOf ByteArray.empty l0 x10_1).size) = false := decide_eq_false (by omega)
         clear c6
         have H' := Aside0.mk H
         clear H
         have p290 : 0 ≤ (x10_1 : Int) := of_decide_eq_true (by first | (with_reducible assumption) | assumption)
         have q290 : x10_1 < (l0.length : Int) := of_decide_eq_true (by first | (with_reducible assumption) | assumption)
         obtain ⟨ad290, e290, hx290_0⟩ := Kd.at_string HR0.out x10_1 p290 q290
         cases e290
         replace p290 := eq_true p290
         replace q290 := eq_true q290
         go_wp2
         go_roundg k1
         case measure => have := HK1.out; omega
         case rel => exact ⟨(wrap64 (x10_1 + 1)), (by first | rfl | (simp; done) | (simp [*]; done)), H', ⟨by have := HK1.out; omega⟩, by repeat (first | exact Drawn0.refl _ | apply Drawn0.step)⟩
       ·rw [if_neg c5] at H
        exact absurd H (by simp)
      ·rw [if_neg c4] at H
       exact absurd H (by simp)
     ·rw [if_neg c3] at H
      have c3b0 : decide (x10_1 < (l0.length : Int)) = false := decide_eq_false c3
      clear c3
      obtain rfl := Option.some.inj H
      go_wp2
      go_ret
      exact ⟨by first | rfl | (simp; done) | (simp [*]; done), by repeat (first | exact Drawn0.refl _ | apply Drawn0.step)⟩

end Go.Proofs.YtclmjmfcggkpaaaGreatDoor.PX
namespace Go.Proofs.YtclmjmfcggkpaaaGreatDoor.PX
open Go.RowKit Go.Proofs.YtclmjmfcggkpaaaGreatDoorW.PrintWords Go.Proofs.YtclmjmfcggkpaaaGreatDoorW.PrintLast Go.Proofs.YtclmjmfcggkpaaaGreatDoorW.PrintMore
attribute [local go_sem] max2_int min2_int max_two min_two max_three min_three max_four min_four   -- for this text's walks alone
set_option linter.unusedVariables false
set_option linter.unusedSimpArgs false

/-! ### laws_zzFits6: function 56 -/
def laws_zzFits6.f (k : Nat) (a0_0 : ByteArray) (l0_1 : List ByteArray) : Option (Bool) := if (a0_0.size : Int) > 2147483647 then (some false) else ((laws_zzFits7.f k l0_1).bind fun t292 => (if t292 = true then (some true) else (some false)))
theorem laws_zzFits6.mono : ∀ a0 a1 k, LeO (laws_zzFits6.f k a0 a1) (laws_zzFits6.f (k + 1) a0 a1) := by
 intro a0 a1 k
 unfold laws_zzFits6.f
 repeat' first
  | (with_reducible exact laws_zzFits7.mono _ _)
  | (with_reducible exact LeO.refl _)
  | (with_reducible exact LeO.none _)
  | (with_reducible refine LeO.ite ?_ ?_)
  | (with_reducible refine LeO.bind ?_ (fun _ => ?_))
  | exact laws_zzFits7.mono _ _
  | exact LeO.none _
  | refine LeO.ite ?_ ?_
  | refine LeO.bind ?_ (fun _ => ?_)
set_option maxHeartbeats 8000000 in
set_option maxRecDepth 100000 in
theorem laws_zzFits6.calls (k : Nat) (a0_0 : ByteArray) (A0_1 : Option Addr) (c0_1 : Nat) (l0_1 : List ByteArray) (r : Bool) (w : World) (hr0_1 : Kd.C Kd.string w A0_1 l0_1.length l0_1) (hc0_1 : l0_1.length ≤ c0_1) (h : laws_zzFits6.f k a0_0 l0_1 = some r) :
 Calls Tryz.prog 56 #[.agg #[.string a0_0, .slice A0_1 l0_1.length c0_1]] w fun e w' => e = .returned (.bool r) ∧ Below w.heap.size w w' := by
 have hu73 := Tryz.underlying73
 have HR0_1 := Aside0.mk hr0_1
 have HC0_1 := Aside0.mk hc0_1
 clear hr0_1 hc0_1
 have HB := Aside0.mk (Below.refl w.heap.size w)
 have H : (if (a0_0.size : Int) > 2147483647 then (some false) else ((laws_zzFits7.f k l0_1).bind fun t292 => (if t292 = true then (some true) else (some false)))) = some r := h
 clear h
 by_cases c2 : (a0_0.size : Int) > 2147483647
 ·rw [if_pos c2] at H
  have c2b0 : decide (2147483647 < (a0_0.size : Int)) = true := decide_eq_true c2
  have c2b1 : decide (2147483647 < a0_0.size) = true := decide_eq_true (by omega)
  clear c2
  obtain rfl := Option.some.inj H
  go_enter Tryz.func56, Tryz.ntmps56
  go_wp2_with (first | ((with_reducible refine gate_dst (N := 1) rfl ?_); refine box_event ?hg (N := 1) ?hd (cs := #[.string a0_0, .slice A0_1 l0_1.length c0_1]) (t := 73) ?hr ?_; (case hd => rfl); (case hg => rfl); (case hr => first | (go_simp; done) | (go_simp; rfl)); intro gb291 hg w3 hbox hb; have n0_ := Aside0.mk (below_step (by repeat ((with_reducible exact HB.out))) hb); have n1_ := Aside0.mk (hbox); have n2_ := Aside0.mk ((by rw [hg]; exact (below_size (by repeat ((with_reducible exact HB.out)))) : w.heap.size ≤ gb291)); have n3_ := Aside0.mk ((by rw [hg]; exact (below_size (by repeat ((with_reducible exact HB.out)))) : w.heap.size ≤ gb291)); clear HB; have HB := n0_; have BK291 := n1_; have GW291 := n2_; have GE291 := n3_; clear n0_ n1_ n2_ n3_; clear hb hbox hg; have hcz4_0 : w3.cell? ⟨gb291, 0, none⟩ = some (.string a0_0) := (blk_cell BK291.out 0).trans rfl; have hcz4_1 : w3.cell? ⟨gb291, 1, none⟩ = some (.slice A0_1 l0_1.length c0_1) := (blk_cell BK291.out 1).trans rfl; have hfz4_0 := blk_frozen BK291.out 0; have hfz4_1 := blk_frozen BK291.out 1))
  go_ret
  exact ⟨by rfl, by repeat ((with_reducible exact HB.out))⟩
 ·rw [if_neg c2] at H
  have c2b0 : decide (2147483647 < (a0_0.size : Int)) = false := decide_eq_false c2
  have c2b1 : decide (2147483647 < a0_0.size) = false := decide_eq_false (by omega)
  clear c2
  replace H := Option.bind_eq_some_iff.mp H
  obtain ⟨t292, A50, H⟩ := H
  replace H : (if t292 = true then (some true) else (some false)) = some r := H
  have A5 := Aside0.mk A50
  clear A50
  by_cases c6 : t292 = true
  ·subst c6
   have H1 : (some true) = some r := by rw [if_pos rfl] at H; exact H
   clear H
   have H := H1
   clear H1
   obtain rfl := Option.some.inj H
   go_enter Tryz.func56, Tryz.ntmps56
   go_wp2_with (first | ((with_reducible refine gate_dst (N := 1) rfl ?_); refine box_event ?hg (N := 1) ?hd (cs := #[.string a0_0, .slice A0_1 l0_1.length c0_1]) (t := 73) ?hr ?_; (case hd => rfl); (case hg => rfl); (case hr => first | (go_simp; done) | (go_simp; rfl)); intro gb291 hg w7 hbox hb; have n0_ := Aside0.mk (below_step (by repeat ((with_reducible exact HB.out))) hb); have n1_ := Aside0.mk (hbox); have n2_ := Aside0.mk ((by rw [hg]; exact (below_size (by repeat ((with_reducible exact HB.out)))) : w.heap.size ≤ gb291)); have n3_ := Aside0.mk ((by rw [hg]; exact (below_size (by repeat ((with_reducible exact HB.out)))) : w.heap.size ≤ gb291)); clear HB; have HB := n0_; have BK291 := n1_; have GW291 := n2_; have GE291 := n3_; clear n0_ n1_ n2_ n3_; clear hb hbox hg; have hcz8_0 : w7.cell? ⟨gb291, 0, none⟩ = some (.string a0_0) := (blk_cell BK291.out 0).trans rfl; have hcz8_1 : w7.cell? ⟨gb291, 1, none⟩ = some (.slice A0_1 l0_1.length c0_1) := (blk_cell BK291.out 1).trans rfl; have hfz8_0 := blk_frozen BK291.out 0; have hfz8_1 := blk_frozen BK291.out 1) | ((with_reducible refine gate_callee (f := 89) rfl ?_); refine goesL_ (some 9) rfl rfl Tryz.func89 (by kernel_rfl) rfl #[.slice A0_1 l0_1.length c0_1] rfl (by (try simp only [List.map_toArray, List.map_cons, List.map_nil]); rfl) ?_; (with_reducible refine (laws_zzFits7.calls k _ _ l0_1 true _ ?side1 ?side2 A5.out).mono ?_); (case side1 => repeat (exact (Kd.C_below HR0_1.out HB.out))); (case side2 => exact HC0_1.out); rintro e w' ⟨rfl, ⟨nd, rfl⟩⟩; refine ⟨_, rfl, ?_⟩))
   go_ret
   exact ⟨by rfl, by repeat ((with_reducible first | exact HB.out | apply pw_below_drewN ))⟩
  ·replace c6 := Bool.eq_false_iff.mpr c6
   subst c6
   have H1 : (some false) = some r := by rw [if_neg (show ¬ (false = true) by decide)] at H; exact H
   clear H
   have H := H1
   clear H1
   obtain rfl := Option.some.inj H
   go_enter Tryz.func56, Tryz.ntmps56
   go_wp2_with (first | ((with_reducible refine gate_dst (N := 1) rfl ?_); refine box_event ?hg (N := 1) ?hd (cs := #[.string a0_0, .slice A0_1 l0_1.length c0_1]) (t := 73) ?hr ?_; (case hd => rfl); (case hg => rfl); (case hr => first | (go_simp; done) | (go_simp; rfl)); intro gb291 hg w9 hbox hb; have n0_ := Aside0.mk (below_step (by repeat ((with_reducible exact HB.out))) hb); have n1_ := Aside0.mk (hbox); have n2_ := Aside0.mk ((by rw [hg]; exact (below_size (by repeat ((with_reducible exact HB.out)))) : w.heap.size ≤ gb291)); have n3_ := Aside0.mk ((by rw [hg]; exact (below_size (by repeat ((with_reducible exact HB.out)))) : w.heap.size ≤ gb291)); clear HB; have HB := n0_; have BK291 := n1_; have GW291 := n2_; have GE291 := n3_; clear n0_ n1_ n2_ n3_; clear hb hbox hg; have hcz10_0 : w9.cell? ⟨gb291, 0, none⟩ = some (.string a0_0) := (blk_cell BK291.out 0).trans rfl; have hcz10_1 : w9.cell? ⟨gb291, 1, none⟩ = some (.slice A0_1 l0_1.length c0_1) := (blk_cell BK291.out 1).trans rfl; have hfz10_0 := blk_frozen BK291.out 0; have hfz10_1 := blk_frozen BK291.out 1) | ((with_reducible refine gate_callee (f := 89) rfl ?_); refine goesL_ (some 9) rfl rfl Tryz.func89 (by kernel_rfl) rfl #[.slice A0_1 l0_1.length c0_1] rfl (by (try simp only [List.map_toArray, List.map_cons, List.map_nil]); rfl) ?_; (with_reducible refine (laws_zzFits7.calls k _ _ l0_1 false _ ?side1 ?side2 A5.out).mono ?_); (case side1 => repeat (exact (Kd.C_below HR0_1.out HB.out))); (case side2 => exact HC0_1.out); rintro e w' ⟨rfl, ⟨nd, rfl⟩⟩; refine ⟨_, rfl, ?_⟩))
   go_ret
   exact ⟨by rfl, by repeat ((with_reducible first | exact HB.out | apply pw_below_drewN ))⟩

end Go.Proofs.YtclmjmfcggkpaaaGreatDoor.PX
