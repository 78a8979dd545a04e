import Derived.Test.YtkihaebaccdjdaaGreatDoorJ41
import Derived.Test.YtkihaebaccdjdaaGreatDoorJ42
import Derived.Test.YtkihaebaccdjdaaGreatDoorJ25
set_option linter.unusedVariables false
set_option linter.unusedSimpArgs false
namespace Go.Proofs.YtkihaebaccdjdaaGreatDoor
open Go.RowKit Go.Proofs.YtkihaebaccdjdaaGreatDoorW.PrintWords Go.Proofs.YtkihaebaccdjdaaGreatDoorW.PrintLast Go.Proofs.YtkihaebaccdjdaaGreatDoorW.PrintMore
namespace H
/-! ### laws.boWorks -/
theorem bo1 : strOfNums (bytesOf ⟨#[65]⟩ ++ [61] ++ bytesOf ⟨#[120]⟩) = ⟨#[65, 61, 120]⟩ := by decide +kernel
theorem bo2 : strOfNums (((([] ++ [123]) ++ [34] ++ esc decL (⟨#[65]⟩ : ByteArray).size (bytesOf ⟨#[65]⟩) ++ [34] ++ [58]) ++ [34] ++ esc decL (⟨#[120]⟩ : ByteArray).size (bytesOf ⟨#[120]⟩) ++ [34]) ++ [125]) = ⟨#[123, 34, 65, 34, 58, 34, 120, 34, 125]⟩ := by decide +kernel
theorem bo3 : strOfNums (xone ⟨#[82]⟩ ⟨#[65]⟩ ⟨#[120]⟩) = ⟨#[60, 82, 62, 60, 65, 62, 120, 60, 47, 65, 62, 60, 47, 82, 62]⟩ := by decide +kernel
theorem bo4 : (((([] ++ [123]) ++ [34] ++ esc decL (⟨#[65]⟩ : ByteArray).size (bytesOf ⟨#[65]⟩) ++ [34] ++ [58]) ++ [34] ++ esc decL (⟨#[120]⟩ : ByteArray).size (bytesOf ⟨#[120]⟩) ++ [34]) ++ [125]).length ≤ 140737488355328 := by decide +kernel
theorem bo5 : (xone ⟨#[82]⟩ ⟨#[65]⟩ ⟨#[120]⟩).length ≤ 140737488355328 := by decide +kernel
theorem bo6 : ∀ c ∈ bytesOf ⟨#[65]⟩, should c 32 = false := by decide +kernel
theorem bo7 : ∀ c ∈ bytesOf ⟨#[120]⟩, should c 32 = false := by decide +kernel
set_option maxHeartbeats 8000000 in
set_option maxRecDepth 100000 in
theorem boworks (w : World) (hT : Tab w) (hU : Lib.Utf8Tabs 2 3 w) (h4 : 4 ≤ w.heap.size) :
 Calls Tryz.prog 10 #[] w fun e w' => e = .returned (.bool true) ∧ Fr (fun k => w.heap.size ≤ k) w w' := by
 replace hT := Aside0.mk hT; replace hU := Aside0.mk hU
 go_enter Tryz.func10, Tryz.ntmps10
 go_wp2_with fail
 have a0 := heap_new w (.cells #[.string ⟨#[65]⟩] 9)
 have b0 := below_alloc (Below.refl w.heap.size w) (.cells #[.string ⟨#[65]⟩] 9)
 have z0 : (w.alloc (.cells #[.string ⟨#[65]⟩] 9)).heap.size = w.heap.size + 1 := by simp
 generalize w.alloc (.cells #[.string ⟨#[65]⟩] 9) = w1 at *
 have a1 := heap_new w1 (.cells #[.int .i64 0, .string ⟨#[120]⟩, .int .i64 0, .slice none 0 0, .slice none 0 0, .slice none 0 0, .string ⟨#[]⟩, .string ⟨#[]⟩, .string ⟨#[]⟩, .slice none 0 0] 28)
 have b1 := below_alloc (b0) (.cells #[.int .i64 0, .string ⟨#[120]⟩, .int .i64 0, .slice none 0 0, .slice none 0 0, .slice none 0 0, .string ⟨#[]⟩, .string ⟨#[]⟩, .string ⟨#[]⟩, .slice none 0 0] 28)
 have z1 : (w1.alloc (.cells #[.int .i64 0, .string ⟨#[120]⟩, .int .i64 0, .slice none 0 0, .slice none 0 0, .slice none 0 0, .string ⟨#[]⟩, .string ⟨#[]⟩, .string ⟨#[]⟩, .slice none 0 0] 28)).heap.size = w1.heap.size + 1 := by simp
 replace a0 := heap_old a0 (.cells #[.int .i64 0, .string ⟨#[120]⟩, .int .i64 0, .slice none 0 0, .slice none 0 0, .slice none 0 0, .string ⟨#[]⟩, .string ⟨#[]⟩, .string ⟨#[]⟩, .slice none 0 0] 28)
 generalize w1.alloc (.cells #[.int .i64 0, .string ⟨#[120]⟩, .int .i64 0, .slice none 0 0, .slice none 0 0, .slice none 0 0, .string ⟨#[]⟩, .string ⟨#[]⟩, .string ⟨#[]⟩, .slice none 0 0] 28) = w2 at *
 rw [z0] at a1 z1
 have a2 := heap_new w2 (.cells #[.bool false] 4)
 have b2 := below_alloc (b1) (.cells #[.bool false] 4)
 have z2 : (w2.alloc (.cells #[.bool false] 4)).heap.size = w2.heap.size + 1 := by simp
 replace a0 := heap_old a0 (.cells #[.bool false] 4)
 replace a1 := heap_old a1 (.cells #[.bool false] 4)
 generalize w2.alloc (.cells #[.bool false] 4) = w3 at *
 rw [z1] at a2 z2
 have a3 := heap_new w3 (.cells #[.int .i64 7, .string ⟨#[]⟩, .int .i64 0, .slice (some ⟨w.heap.size, 0, none⟩) 1 1, .slice (some ⟨w.heap.size + 1, 0, none⟩) 1 1, .slice (some ⟨w.heap.size + 1 + 1, 0, none⟩) 1 1, .string ⟨#[]⟩, .string ⟨#[]⟩, .string ⟨#[]⟩, .slice none 0 0] 28)
 have b3 := below_alloc (b2) (.cells #[.int .i64 7, .string ⟨#[]⟩, .int .i64 0, .slice (some ⟨w.heap.size, 0, none⟩) 1 1, .slice (some ⟨w.heap.size + 1, 0, none⟩) 1 1, .slice (some ⟨w.heap.size + 1 + 1, 0, none⟩) 1 1, .string ⟨#[]⟩, .string ⟨#[]⟩, .string ⟨#[]⟩, .slice none 0 0] 28)
 have z3 : (w3.alloc (.cells #[.int .i64 7, .string ⟨#[]⟩, .int .i64 0, .slice (some ⟨w.heap.size, 0, none⟩) 1 1, .slice (some ⟨w.heap.size + 1, 0, none⟩) 1 1, .slice (some ⟨w.heap.size + 1 + 1, 0, none⟩) 1 1, .string ⟨#[]⟩, .string ⟨#[]⟩, .string ⟨#[]⟩, .slice none 0 0] 28)).heap.size = w3.heap.size + 1 := by simp
 replace a0 := heap_old a0 (.cells #[.int .i64 7, .string ⟨#[]⟩, .int .i64 0, .slice (some ⟨w.heap.size, 0, none⟩) 1 1, .slice (some ⟨w.heap.size + 1, 0, none⟩) 1 1, .slice (some ⟨w.heap.size + 1 + 1, 0, none⟩) 1 1, .string ⟨#[]⟩, .string ⟨#[]⟩, .string ⟨#[]⟩, .slice none 0 0] 28)
 replace a1 := heap_old a1 (.cells #[.int .i64 7, .string ⟨#[]⟩, .int .i64 0, .slice (some ⟨w.heap.size, 0, none⟩) 1 1, .slice (some ⟨w.heap.size + 1, 0, none⟩) 1 1, .slice (some ⟨w.heap.size + 1 + 1, 0, none⟩) 1 1, .string ⟨#[]⟩, .string ⟨#[]⟩, .string ⟨#[]⟩, .slice none 0 0] 28)
 replace a2 := heap_old a2 (.cells #[.int .i64 7, .string ⟨#[]⟩, .int .i64 0, .slice (some ⟨w.heap.size, 0, none⟩) 1 1, .slice (some ⟨w.heap.size + 1, 0, none⟩) 1 1, .slice (some ⟨w.heap.size + 1 + 1, 0, none⟩) 1 1, .string ⟨#[]⟩, .string ⟨#[]⟩, .string ⟨#[]⟩, .slice none 0 0] 28)
 generalize w3.alloc (.cells #[.int .i64 7, .string ⟨#[]⟩, .int .i64 0, .slice (some ⟨w.heap.size, 0, none⟩) 1 1, .slice (some ⟨w.heap.size + 1, 0, none⟩) 1 1, .slice (some ⟨w.heap.size + 1 + 1, 0, none⟩) 1 1, .string ⟨#[]⟩, .string ⟨#[]⟩, .string ⟨#[]⟩, .slice none 0 0] 28) = w4 at *
 rw [z2] at a3 z3
 obtain ⟨g, hg⟩ : ∃ g, w.heap.size = g := ⟨_, rfl⟩
 rw [hg] at a0 a1 a2 a3 z3 ⊢
 have hb := Aside0.mk b3
 clear b0 b1 b2 b3 z0 z1 z2
 have q0 := cell_at a3 0
 have q1 := cell_at a3 1
 have q2 := cell_at a3 2
 have q3 := cell_at a3 3
 have q4 := cell_at a3 4
 have q5 := cell_at a3 5
 have q6 := cell_at a3 6
 have q7 := cell_at a3 7
 have q8 := cell_at a3 8
 have q9 := cell_at a3 9
 simp at q0 q1 q2 q3 q4 q5 q6 q7 q8 q9
 replace a0 := Aside0.mk a0
 replace a1 := Aside0.mk a1
 replace a2 := Aside0.mk a2
 replace a3 := Aside0.mk a3
 replace z3 := Aside0.mk z3
 have hT4 := Aside0.mk (hT.out.below hb.out)
 have hU4 := Aside0.mk (Utf8Tabs_below hU.out hb.out)
 have hF4 : Aside0 (Fr (fun k => w.heap.size ≤ k) w w4) := .mk (Fr.of_below hb.out)
 have hlo4 : Aside0 (4 ≤ w4.heap.size) := .mk (by have := z3.out; omega)
 clear z3 hb hT hU
 have h0 := efOne ⟨#[65]⟩ ⟨#[]⟩ 0 ⟨#[]⟩ ⟨#[]⟩ ⟨#[]⟩ g (g + 1) (g + 1 + 1) none 0 1 1 1 0 ⟨#[120]⟩ 0 ⟨#[]⟩ ⟨#[]⟩ ⟨#[]⟩ none none none none 0 0 0 0 0 0 0 0 (0, 0) (0, 0) (0, 0) w4 hT4.out (by have := hlo4.out; omega) (by decide) (by decide) bo6 bo7 a0.out a1.out a2.out
 rw [bo1] at h0
 unfold ND at h0
 replace h0 := Aside0.mk h0
 refine h0.out.mono ?_
 rintro e w5 ⟨rfl, hF⟩
 clear h0
 replace a0 := hF.heap a0.out (fun h => by have := lt_of a0.out; omega)
 replace a1 := hF.heap a1.out (fun h => by have := lt_of a1.out; omega)
 replace a2 := hF.heap a2.out (fun h => by have := lt_of a2.out; omega)
 replace a3 := hF.heap a3.out (fun h => by have := lt_of a3.out; omega)
 clear q0 q1 q2 q3 q4 q5 q6 q7 q8 q9
 have q0 := cell_at a3 0
 have q1 := cell_at a3 1
 have q2 := cell_at a3 2
 have q3 := cell_at a3 3
 have q4 := cell_at a3 4
 have q5 := cell_at a3 5
 have q6 := cell_at a3 6
 have q7 := cell_at a3 7
 have q8 := cell_at a3 8
 have q9 := cell_at a3 9
 simp at q0 q1 q2 q3 q4 q5 q6 q7 q8 q9
 replace a0 := Aside0.mk a0
 replace a1 := Aside0.mk a1
 replace a2 := Aside0.mk a2
 replace a3 := Aside0.mk a3
 replace hT4 := Aside0.mk (hT4.out.fr hF (fun h => by have := hlo4.out; omega))
 replace hU4 := Aside0.mk (tabs_fr hU4.out hF (fun h => by have := hlo4.out; omega) (fun h => by have := hlo4.out; omega))
 have hs := hF.size
 replace hF4 := Aside0.mk (hF4.out.trans hF (fun k _ h => by have := hF4.out.size; omega))
 replace hlo4 := Aside0.mk (Nat.le_trans hlo4.out hs)
 clear hF hs
 have h1 := ejOne ⟨#[65]⟩ ⟨#[]⟩ 0 ⟨#[]⟩ ⟨#[]⟩ ⟨#[]⟩ g (g + 1) (some ⟨g + 1 + 1, 0, none⟩) none 1 0 1 1 1 0 ⟨#[120]⟩ 0 ⟨#[]⟩ ⟨#[]⟩ ⟨#[]⟩ none none none none 0 0 0 0 0 0 0 0 w5 (0, 0) (0, 0) hU4.out hlo4.out a0.out a1.out (by decide) (by decide) bo4
 rw [bo2] at h1
 unfold ND at h1
 replace h1 := Aside0.mk h1
 go_wp2_with fail
 refine h1.out.mono ?_
 rintro e w6 ⟨rfl, hF⟩
 clear h1
 replace a0 := hF.heap a0.out (fun h => by have := lt_of a0.out; omega)
 replace a1 := hF.heap a1.out (fun h => by have := lt_of a1.out; omega)
 replace a2 := hF.heap a2.out (fun h => by have := lt_of a2.out; omega)
 replace a3 := hF.heap a3.out (fun h => by have := lt_of a3.out; omega)
 clear q0 q1 q2 q3 q4 q5 q6 q7 q8 q9
 have q0 := cell_at a3 0
 have q1 := cell_at a3 1
 have q2 := cell_at a3 2
 have q3 := cell_at a3 3
 have q4 := cell_at a3 4
 have q5 := cell_at a3 5
 have q6 := cell_at a3 6
 have q7 := cell_at a3 7
 have q8 := cell_at a3 8
 have q9 := cell_at a3 9
 simp at q0 q1 q2 q3 q4 q5 q6 q7 q8 q9
 replace a0 := Aside0.mk a0
 replace a1 := Aside0.mk a1
 replace a2 := Aside0.mk a2
 replace a3 := Aside0.mk a3
 replace hT4 := Aside0.mk (hT4.out.fr hF (fun h => by have := hlo4.out; omega))
 replace hU4 := Aside0.mk (tabs_fr hU4.out hF (fun h => by have := hlo4.out; omega) (fun h => by have := hlo4.out; omega))
 have hs := hF.size
 replace hF4 := Aside0.mk (hF4.out.trans hF (fun k _ h => by have := hF4.out.size; omega))
 replace hlo4 := Aside0.mk (Nat.le_trans hlo4.out hs)
 clear hF hs
 have h2 := exOne ⟨#[82]⟩ ⟨#[65]⟩ ⟨#[]⟩ 0 ⟨#[]⟩ ⟨#[]⟩ ⟨#[]⟩ g (g + 1) (g + 1 + 1) 1 1 1 ⟨#[120]⟩ 0 ⟨#[]⟩ ⟨#[]⟩ ⟨#[]⟩ none none none 0 0 0 0 0 0 (0, 0) (0, 0) (0, 0) w6 hU4.out hlo4.out (by decide) (by decide) (by decide) (by decide) (by decide) bo5 a0.out a1.out a2.out
 rw [bo3] at h2
 unfold ND at h2
 replace h2 := Aside0.mk h2
 go_wp2_with fail
 refine h2.out.mono ?_
 rintro e w7 ⟨rfl, hF⟩
 clear h2
 replace a0 := hF.heap a0.out (fun h => by have := lt_of a0.out; omega)
 replace a1 := hF.heap a1.out (fun h => by have := lt_of a1.out; omega)
 replace a2 := hF.heap a2.out (fun h => by have := lt_of a2.out; omega)
 replace a3 := hF.heap a3.out (fun h => by have := lt_of a3.out; omega)
 clear q0 q1 q2 q3 q4 q5 q6 q7 q8 q9
 have q0 := cell_at a3 0
 have q1 := cell_at a3 1
 have q2 := cell_at a3 2
 have q3 := cell_at a3 3
 have q4 := cell_at a3 4
 have q5 := cell_at a3 5
 have q6 := cell_at a3 6
 have q7 := cell_at a3 7
 have q8 := cell_at a3 8
 have q9 := cell_at a3 9
 simp at q0 q1 q2 q3 q4 q5 q6 q7 q8 q9
 replace a0 := Aside0.mk a0
 replace a1 := Aside0.mk a1
 replace a2 := Aside0.mk a2
 replace a3 := Aside0.mk a3
 replace hT4 := Aside0.mk (hT4.out.fr hF (fun h => by have := hlo4.out; omega))
 replace hU4 := Aside0.mk (tabs_fr hU4.out hF (fun h => by have := hlo4.out; omega) (fun h => by have := hlo4.out; omega))
 have hs := hF.size
 replace hF4 := Aside0.mk (hF4.out.trans hF (fun k _ h => by have := hF4.out.size; omega))
 replace hlo4 := Aside0.mk (Nat.le_trans hlo4.out hs)
 clear hF hs
 go_wp2
 go_ret
 exact ⟨rfl, hF4.out⟩
end H
end Go.Proofs.YtkihaebaccdjdaaGreatDoor
set_option linter.unusedVariables false
set_option linter.unusedSimpArgs false
namespace Go.Proofs.YtkihaebaccdjdaaGreatDoor
open Go.RowKit Go.Proofs.YtkihaebaccdjdaaGreatDoorW.PrintWords Go.Proofs.YtkihaebaccdjdaaGreatDoorW.PrintLast Go.Proofs.YtkihaebaccdjdaaGreatDoorW.PrintMore
open PX
namespace H
/-! ### laws.FnJSONText -/
theorem escB_len (c : Int) : (escB c).length ≤ 6 := by
 unfold escB
 repeat' split
 all_goals simp
theorem esc_len : ∀ (k : Nat) (l : List Int), (esc decL k l).length ≤ 6 * l.length
 | 0, l => by simp [esc]
 | k + 1, [] => by simp [esc]
 | k + 1, c :: l => by
   have hd := decL_pos (c :: l) (by simp)
   have ih1 := esc_len k l
   have ih2 := esc_len k ((c :: l).drop (decL (c :: l)).2)
   rw [List.length_drop] at ih2
   have hb := escB_len c
   unfold esc
   split
   ·split
    ·simp only [List.length_cons] at *; omega
    ·simp only [List.length_cons, List.length_append] at *; omega
   ·split
    ·simp only [List.length_cons, List.length_append, List.length_nil] at *; omega
    ·split
     ·simp only [List.length_cons, List.length_append, List.length_nil] at *; omega
     ·simp only [List.length_append, List.length_take] at *; simp only [List.length_cons] at *; omega
theorem U8.rng {p : Int → Bool} {l : List Int} (h : U8 p l) : ∀ x ∈ l, 0 ≤ x ∧ x < 256 := by
 obtain ⟨xs, h1, rfl⟩ := h
 intro y hy
 obtain ⟨x, hx, hy⟩ := List.mem_flatMap.1 hy
 exact utf8E_rng x (h1 x hx).1 y hy
theorem Fr.bel {w w' : World} (h : Fr (fun k => w.heap.size ≤ k) w w') : Below w.heap.size w w' := h.below (Nat.le_refl _) (fun _ _ h => h)
/-- What EncodeJSON makes of a text. -/
def jout (s : ByteArray) : ByteArray := strOfNums ([] ++ [34] ++ esc decL s.size (bytesOf s) ++ [34])
end H
end Go.Proofs.YtkihaebaccdjdaaGreatDoor
