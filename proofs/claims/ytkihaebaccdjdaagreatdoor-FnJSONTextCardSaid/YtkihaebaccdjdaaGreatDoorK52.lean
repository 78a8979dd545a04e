import Derived.Test.YtkihaebaccdjdaaGreatDoorK36
import Derived.Test.YtkihaebaccdjdaaGreatDoorK51
set_option linter.unusedVariables false
set_option linter.unusedSimpArgs false
namespace Go.Proofs.YtkihaebaccdjdaaGreatDoor
open Go.RowKit Go.Proofs.YtkihaebaccdjdaaGreatDoorW.PrintWords Go.Proofs.YtkihaebaccdjdaaGreatDoorW.PrintLast Go.Proofs.YtkihaebaccdjdaaGreatDoorW.PrintMore
open PX
namespace H
/-! ### laws.FnJSONText -/
theorem escB_len (c : Int) : (escB c).length ≤ 6 := by
  unfold escB
  repeat' split
  all_goals simp
theorem esc_len : ∀ (k : Nat) (l : List Int), (esc decL k l).length ≤ 6 * l.length
  | 0, l => by simp [esc]
  | k + 1, [] => by simp [esc]
  | k + 1, c :: l => by
    have hd := decL_pos (c :: l) (by simp)
    have ih1 := esc_len k l
    have ih2 := esc_len k ((c :: l).drop (decL (c :: l)).2)
    rw [List.length_drop] at ih2
    have hb := escB_len c
    unfold esc
    split
    · split
      · simp only [List.length_cons] at *; omega
      · simp only [List.length_cons, List.length_append] at *; omega
    · split
      · simp only [List.length_cons, List.length_append, List.length_nil] at *; omega
      · split
        · simp only [List.length_cons, List.length_append, List.length_nil] at *; omega
        · simp only [List.length_append, List.length_take] at *; simp only [List.length_cons] at *; omega
theorem U8.rng {p : Int → Bool} {l : List Int} (h : U8 p l) : ∀ x ∈ l, 0 ≤ x ∧ x < 256 := by
  obtain ⟨xs, h1, rfl⟩ := h
  intro y hy
  obtain ⟨x, hx, hy⟩ := List.mem_flatMap.1 hy
  exact utf8E_rng x (h1 x hx).1 y hy
theorem Fr.bel {w w' : World} (h : Fr (fun k => w.heap.size ≤ k) w w') : Below w.heap.size w w' := h.below (Nat.le_refl _) (fun _ _ h => h)
/-- What EncodeJSON makes of a text. -/
def jout (s : ByteArray) : ByteArray := strOfNums ([] ++ [34] ++ esc decL s.size (bytesOf s) ++ [34])
theorem jout_good (s : ByteArray) (h : U8 (fun _ => true) (bytesOf s)) : U8 (fun _ => true) (bytesOf (jout s)) ∧ bytesOf (jout s) = 34 :: (esc decL s.size (bytesOf s) ++ 34 :: []) ∧ Read1 (esc decL s.size (bytesOf s)) (bytesOf s) := by
  obtain ⟨h1, h2⟩ := esc_good h s.size (by rw [bytesOf_length]; omega)
  have hu : U8 (fun _ => true) ([] ++ [34] ++ esc decL s.size (bytesOf s) ++ [34]) := ((U8.ascii (p := fun _ => true) (a := [] ++ [34]) (by decide)).app h1).app (U8.ascii (by decide))
  have e : bytesOf (jout s) = [] ++ [34] ++ esc decL s.size (bytesOf s) ++ [34] := bytes_nums _ hu.rng
  exact ⟨by rw [e]; exact hu, by rw [e]; simp, h2⟩
set_option maxHeartbeats 8000000 in
set_option maxRecDepth 100000 in
theorem fnJSONText (s : ByteArray) (w : World) (hT : Tab w) (hU : Lib.Utf8Tabs 2 3 w) (h4 : 4 ≤ w.heap.size) :
    Calls Tryz.prog 6 #[.string s] w fun e w' => e = .returned (.bool true) ∧ Below w.heap.size w w' := by
  replace hT := Aside0.mk hT; replace hU := Aside0.mk hU; replace h4 := Aside0.mk h4
  by_cases hz : 2147483647 < s.size
  · have hzI : (2147483647 : Int) < (s.size : Int) := by omega
    go_enter Tryz.func6, Tryz.ntmps6
    go_wp2
    go_ret
    exact ⟨rfl, Below.refl _ _⟩
  · have hzI : ¬ ((2147483647 : Int) < (s.size : Int)) := by omega
    by_cases h5 : 5000 < s.size
    · have h5I : (5000 : Int) < (s.size : Int) := by omega
      go_enter Tryz.func6, Tryz.ntmps6
      go_wp2_with fail
      refine (boworks w hT.out hU.out h4.out).mono ?_
      rintro e w1 ⟨rfl, hF⟩
      have hF1 := Aside0.mk hF.bel
      clear hF
      go_wp2
      go_ret
      exact ⟨rfl, hF1.out⟩
    · have h5I : ¬ ((5000 : Int) < (s.size : Int)) := by omega
      have hc := isU s w (by omega)
      cases hu : runes (fun _ => true) (s.size + 1) (bytesOf s) with
      | false =>
        rw [hu] at hc
        replace hc := Aside0.mk hc
        clear hu
        go_enter Tryz.func6, Tryz.ntmps6
        go_wp2_with fail
        refine hc.out.mono ?_
        rintro e w1 ⟨rfl, hb⟩
        have hB := Aside0.mk hb
        have hsz := hb.size
        clear hb hc
        go_wp2_with fail
        refine (boworks w1 (hT.out.below hB.out) (Utf8Tabs_below hU.out hB.out) (by have := h4.out; omega)).mono ?_
        rintro e w2 ⟨rfl, hF⟩
        have hB2 := Aside0.mk (below_then hB.out hB.out.size hF.bel)
        clear hF
        go_wp2
        go_ret
        exact ⟨rfl, hB2.out⟩
      | true =>
        have hg := jout_good s (U8.of_runes _ _ (bytes_rng s) hu)
        have hel := esc_len s.size (bytesOf s)
        rw [bytesOf_length] at hel
        have hej := fun (w : World) (hU : Lib.Utf8Tabs 2 3 w) (h4 : 4 ≤ w.heap.size) => ejText s 0 ⟨#[]⟩ ⟨#[]⟩ ⟨#[]⟩ none none none none 0 0 0 0 0 0 0 0 w hU h4 (by omega) (by simp only [List.length_append, List.length_cons, List.length_nil]; omega)
        obtain ⟨rs', hrt, hrn⟩ := text_f (s := jout s) (l := []) hg.2.2 hg.2.1 (by rw [bytesOf_length]; omega) ((esc decL s.size (bytesOf s)).length + 14) (Nat.le_refl _)
        rw [nums_bytes] at hrt
        have hjs : (jout s).size ≤ 2147483647 := by
          rw [← bytesOf_length, hg.2.1]; simp; omega
        have hsj := fun w : World => saysT (T := s) 0 s 0 ⟨#[]⟩ ⟨#[]⟩ ⟨#[]⟩ none none none none 0 0 0 0 0 0 0 0 w (.inl rfl) (fun w => text0 s 0 w) hg.1 hjs hrt hrn
        rw [hu] at hc
        unfold ND at hej hsj
        change ∀ (w : World), Lib.Utf8Tabs 2 3 w → 4 ≤ w.heap.size → Calls Tryz.prog 16 #[.agg #[.int .i64 0, .string s, .int .i64 0, .slice none 0 0, .slice none 0 0, .slice none 0 0, .string ⟨#[]⟩, .string ⟨#[]⟩, .string ⟨#[]⟩, .slice none 0 0]] w fun e w' => e = .returned (.string (jout s)) ∧ Fr (fun k => w.heap.size ≤ k) w w' at hej
        generalize jout s = o at *
        replace hc := Aside0.mk hc
        clear hu hg hel hrt hrn hjs
        go_enter Tryz.func6, Tryz.ntmps6
        go_wp2_with fail
        refine hc.out.mono ?_
        rintro e w1 ⟨rfl, hb⟩
        have hB := Aside0.mk hb
        clear hb hc
        go_wp2_with fail
        have hb := below_alloc hB.out (.cells #[.int .i64 0, .string s, .int .i64 0, .slice none 0 0, .slice none 0 0, .slice none 0 0, .string ⟨#[]⟩, .string ⟨#[]⟩, .string ⟨#[]⟩, .slice none 0 0] 28)
        have kn3 := heap_new w1 (.cells #[.int .i64 0, .string s, .int .i64 0, .slice none 0 0, .slice none 0 0, .slice none 0 0, .string ⟨#[]⟩, .string ⟨#[]⟩, .string ⟨#[]⟩, .slice none 0 0] 28)
        generalize w1.alloc (.cells #[.int .i64 0, .string s, .int .i64 0, .slice none 0 0, .slice none 0 0, .slice none 0 0, .string ⟨#[]⟩, .string ⟨#[]⟩, .string ⟨#[]⟩, .slice none 0 0] 28) = w3 at *
        obtain ⟨nb, hnb⟩ : ∃ nb, w1.heap.size = nb := ⟨_, rfl⟩
        rw [hnb] at kn3 ⊢
        have hT3 := Aside0.mk (hT.out.below hb)
        have hU3 := Aside0.mk (Utf8Tabs_below hU.out hb)
        have h43 : Aside0 (4 ≤ w3.heap.size) := .mk (Nat.le_trans h4.out hb.size)
        have hF3 : Aside0 (Fr (fun k => w.heap.size ≤ k) w w3) := .mk (Fr.of_below hb)
        clear hb hB
        have q0 := cell_at kn3 0
        have q1 := cell_at kn3 1
        have q2 := cell_at kn3 2
        have q3 := cell_at kn3 3
        have q4 := cell_at kn3 4
        have q5 := cell_at kn3 5
        have q6 := cell_at kn3 6
        have q7 := cell_at kn3 7
        have q8 := cell_at kn3 8
        have q9 := cell_at kn3 9
        simp at q0 q1 q2 q3 q4 q5 q6 q7 q8 q9
        replace kn3 := Aside0.mk kn3
        replace hej := Aside0.mk hej; replace hsj := Aside0.mk hsj
        go_region_held3 (fun w' => w'.cell? ⟨nb, 0, none⟩ = some (.int .i64 0) ∧ w'.cell? ⟨nb, 1, none⟩ = some (.string s) ∧ w'.cell? ⟨nb, 2, none⟩ = some (.int .i64 0) ∧ w'.cell? ⟨nb, 3, none⟩ = some (.slice none 0 0) ∧ w'.cell? ⟨nb, 4, none⟩ = some (.slice none 0 0) ∧ w'.cell? ⟨nb, 5, none⟩ = some (.slice none 0 0) ∧ w'.cell? ⟨nb, 6, none⟩ = some (.string ⟨#[]⟩) ∧ w'.cell? ⟨nb, 7, none⟩ = some (.string ⟨#[]⟩) ∧ w'.cell? ⟨nb, 8, none⟩ = some (.string ⟨#[]⟩) ∧ w'.cell? ⟨nb, 9, none⟩ = some (.slice none 0 0)) (simp [*, World.cell?_setCell_far]) (first | ((go_at_call 10; refine (boworks w3.drew (hT3.out.below (drewBx _)) (Utf8Tabs_below hU3.out (drewBx _)) h43.out).mono ?_; rintro e w4 ⟨rfl, hF⟩; replace hF := undrewF hF; have hF4 := Aside0.mk (hF3.out.trans hF (fun k _ h => by have h1 := hF3.out.size; have h2 : w3.heap.size ≤ k := h; omega)); have hT4 := Aside0.mk (hT3.out.fr hF (fun h => by have h2 : w3.heap.size ≤ 0 := h; have := h43.out; omega)); have hU4 := Aside0.mk (tabs_fr hU3.out hF (fun h => by have h2 : w3.heap.size ≤ 2 := h; have := h43.out; omega) (fun h => by have h2 : w3.heap.size ≤ 3 := h; have := h43.out; omega)); have h44 : Aside0 (4 ≤ w4.heap.size) := .mk (Nat.le_trans h43.out hF.size); have kn4 := hF.heap kn3.out (fun e => by have h1 := lt_of kn3.out; have h2 : w3.heap.size ≤ nb := e; omega); have q0 := cell_at kn4 0; have q1 := cell_at kn4 1; have q2 := cell_at kn4 2; have q3 := cell_at kn4 3; have q4 := cell_at kn4 4; have q5 := cell_at kn4 5; have q6 := cell_at kn4 6; have q7 := cell_at kn4 7; have q8 := cell_at kn4 8; have q9 := cell_at kn4 9; simp at q0 q1 q2 q3 q4 q5 q6 q7 q8 q9; replace kn4 := Aside0.mk kn4; clear hF)) | ((go_at_call 16; refine (hej.out w4 hU4.out h44.out).mono ?_; rintro e w5 ⟨rfl, hF⟩; have hF5 := Aside0.mk (hF4.out.trans hF (fun k _ h => by have h1 := hF4.out.size; have h2 : w4.heap.size ≤ k := h; omega)); have kn5 := hF.heap kn4.out (fun e => by have h1 := lt_of kn4.out; have h2 : w4.heap.size ≤ nb := e; omega); have q0 := cell_at kn5 0; have q1 := cell_at kn5 1; have q2 := cell_at kn5 2; have q3 := cell_at kn5 3; have q4 := cell_at kn5 4; have q5 := cell_at kn5 5; have q6 := cell_at kn5 6; have q7 := cell_at kn5 7; have q8 := cell_at kn5 8; have q9 := cell_at kn5 9; simp at q0 q1 q2 q3 q4 q5 q6 q7 q8 q9; replace kn5 := Aside0.mk kn5; clear hF)) | ((go_at_call 15; refine (hsj.out w5).mono ?_; rintro e w6 ⟨rfl, hb⟩; have hF6 := Aside0.mk (hF5.out.trans (Fr.of_below (S := fun _ => False) hb) (fun _ _ h => h.elim)); have kn6 := heap_below hb kn5.out; have q0 := cell_at kn6 0; have q1 := cell_at kn6 1; have q2 := cell_at kn6 2; have q3 := cell_at kn6 3; have q4 := cell_at kn6 4; have q5 := cell_at kn6 5; have q6 := cell_at kn6 6; have q7 := cell_at kn6 7; have q8 := cell_at kn6 8; have q9 := cell_at kn6 9; simp at q0 q1 q2 q3 q4 q5 q6 q7 q8 q9; clear hb kn6)))
        all_goals
          go_wp2
          go_ret
          exact ⟨rfl, hF6.out.bel⟩
end H
end Go.Proofs.YtkihaebaccdjdaaGreatDoor
