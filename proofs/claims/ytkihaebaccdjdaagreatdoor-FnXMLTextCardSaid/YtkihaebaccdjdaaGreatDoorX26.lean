import Derived.Test.YtkihaebaccdjdaaGreatDoorX19
import Derived.Test.YtkihaebaccdjdaaGreatDoorX12
import Derived.Test.YtkihaebaccdjdaaGreatDoorX24
import Derived.Test.YtkihaebaccdjdaaGreatDoorX25
import Derived.Test.YtkihaebaccdjdaaGreatDoorX13
set_option linter.unusedVariables false
set_option linter.unusedSimpArgs false
namespace Go.Proofs.YtkihaebaccdjdaaGreatDoor
open Go.RowKit Go.Proofs.YtkihaebaccdjdaaGreatDoorW.PrintWords Go.Proofs.YtkihaebaccdjdaaGreatDoorW.PrintLast Go.Proofs.YtkihaebaccdjdaaGreatDoorW.PrintMore
namespace H
/-! ### impl.EncodeJSON -/
set_option maxHeartbeats 2000000 in
set_option maxRecDepth 100000 in
theorem ejson {D : World → Prop} {out : List Int} (kd : Int) (s0 : ByteArray) (num0 : Int) (i0 k0 v0 : ByteArray) (d1 d2 d3 d4 : Option Addr) (r1 r2 r3 r4 u1 u2 u3 u4 : Nat) (w : World) (hD : D w) (hl : out.length ≤ 140737488355328)
 (hk : ∀ (X : Nat → Prop) (w1 w' : World), D w1 → Fr (fun k => w.heap.size ≤ k ∧ ¬ X k) w1 w' → D w')
 (hin : ∀ (b sc : Nat) (X : Nat → Prop) (w1 : World), JB 150 (w.heap.size + 1) X b [] w1 → D w1 → Fr (fun k => w.heap.size ≤ k) w w1 → Calls Tryz.prog 39 #[.agg #[.pointer (some ⟨b, 0, none⟩), .pointer (some ⟨sc, 0, none⟩)], ND kd s0 num0 (.slice d1 r1 u1) (.slice d2 r2 u2) (.slice d3 r3 u3) i0 k0 v0 (.slice d4 r4 u4)] w1 fun e w' => e = .returned (.tuple #[]) ∧ Wrote 150 (w.heap.size + 1) X b out w1 w' ∧ D w') :
 Calls Tryz.prog 16 #[ND kd s0 num0 (.slice d1 r1 u1) (.slice d2 r2 u2) (.slice d3 r3 u3) i0 k0 v0 (.slice d4 r4 u4)] w fun e w' => e = .returned (.string (strOfNums out)) ∧ Fr (fun k => w.heap.size ≤ k) w w' := by
 replace hD := Aside0.mk hD; replace hk := Aside0.mk hk; replace hin := Aside0.mk hin
 unfold ND at hin ⊢
 go_enter Tryz.func16, Tryz.ntmps16
 go_wp2_with fail
 have hb := below_alloc (Below.refl w.heap.size w) (.cells (NDc kd s0 num0 (.slice d1 r1 u1) (.slice d2 r2 u2) (.slice d3 r3 u3) i0 k0 v0 (.slice d4 r4 u4)) 28)
 have hsz : (w.alloc (.cells (NDc kd s0 num0 (.slice d1 r1 u1) (.slice d2 r2 u2) (.slice d3 r3 u3) i0 k0 v0 (.slice d4 r4 u4)) 28)).heap.size = w.heap.size + 1 := by simp
 have hE := jnewE (w.alloc (.cells (NDc kd s0 num0 (.slice d1 r1 u1) (.slice d2 r2 u2) (.slice d3 r3 u3) i0 k0 v0 (.slice d4 r4 u4)) 28))
 rw [hsz] at hE
 have hnd := heap_new w (.cells (NDc kd s0 num0 (.slice d1 r1 u1) (.slice d2 r2 u2) (.slice d3 r3 u3) i0 k0 v0 (.slice d4 r4 u4)) 28)
 unfold NDc at hb hsz hE hnd
 generalize w.alloc (.cells #[.int .i64 kd, .string s0, .int .i64 num0, .slice d1 r1 u1, .slice d2 r2 u2, .slice d3 r3 u3, .string i0, .string k0, .string v0, .slice d4 r4 u4] 28) = w1 at *
 refine hE.mono ?_
 rintro e w2 ⟨b, sc, eb, rfl, hJ, heb, hE2, hb2⟩
 obtain ⟨nb, hnb⟩ : ∃ nb, w.heap.size = nb := ⟨_, rfl⟩
 rw [← hsz] at hb2
 have hF2 := Aside0.mk ((Fr.of_below (S := fun k => w.heap.size ≤ k) hb).trans (Fr.of_below (S := fun _ => False) hb2) (fun _ _ h => h.elim))
 have hD2 := Aside0.mk (hk.out (fun k => k < w.heap.size) _ _ hD.out (hF2.out.mono (fun k _ h => ⟨h, by omega⟩)))
 have c0 := cell_at hE2 0; have c1 := cell_at hE2 1; have c2 := cell_at hE2 2
 simp at c0 c1 c2
 replace hJ := Aside0.mk hJ; replace hE2 := Aside0.mk hE2; replace hb := Aside0.mk hb; replace hb2 := Aside0.mk hb2
 have hn2 := heap_below hb2.out hnd
 rw [hnb] at hn2 heb ⊢
 have q0 := cell_at hn2 0; have q1 := cell_at hn2 1; have q2 := cell_at hn2 2; have q3 := cell_at hn2 3; have q4 := cell_at hn2 4; have q5 := cell_at hn2 5; have q6 := cell_at hn2 6; have q7 := cell_at hn2 7; have q8 := cell_at hn2 8; have q9 := cell_at hn2 9; unfold NDc at q0 q1 q2 q3 q4 q5 q6 q7 q8 q9; simp at q0 q1 q2 q3 q4 q5 q6 q7 q8 q9
 replace hn2 := Aside0.mk hn2
 clear hE hnd
 go_wp2_with fail
 go_region_held3 (fun w' => w'.cell? ⟨eb, 1, none⟩ = some (.pointer (some ⟨b, 0, none⟩)) ∧ w'.cell? ⟨eb, 2, none⟩ = some (.pointer (some ⟨sc, 0, none⟩)) ∧ w'.cell? ⟨nb, 0, none⟩ = some (.int .i64 kd) ∧ w'.cell? ⟨nb, 1, none⟩ = some (.string s0) ∧ w'.cell? ⟨nb, 2, none⟩ = some (.int .i64 num0) ∧ w'.cell? ⟨nb, 3, none⟩ = some (.slice d1 r1 u1) ∧ w'.cell? ⟨nb, 4, none⟩ = some (.slice d2 r2 u2) ∧ w'.cell? ⟨nb, 5, none⟩ = some (.slice d3 r3 u3) ∧ w'.cell? ⟨nb, 6, none⟩ = some (.string i0) ∧ w'.cell? ⟨nb, 7, none⟩ = some (.string k0) ∧ w'.cell? ⟨nb, 8, none⟩ = some (.string v0) ∧ w'.cell? ⟨nb, 9, none⟩ = some (.slice d4 r4 u4)) (simp [*, World.cell?_setCell_far]) (first | ((go_at_call 39; refine (hin.out b sc (fun k => k = eb) _ (hJ.out.calm (drewB _)) (hk.out (fun _ => False) _ _ hD2.out (Fr.of_below (drewB _))) (hF2.out.trans (Fr.of_below (S := fun _ => False) (drewB _)) (fun _ _ h => h.elim))).mono ?_; rintro e w4 ⟨rfl, hw4, hD4⟩; have hF4 := undrewF hw4.2; have hE4 := hF4.heap hE2.out (fun e => e.2 rfl); have hn4 := hF4.heap hn2.out (fun e => absurd e.1 (by omega)); have c1 := cell_at hE4 1; have c0 := cell_at hE4 0; have c2 := cell_at hE4 2; simp at c0 c1 c2; have q0 := cell_at hn4 0; have q1 := cell_at hn4 1; have q2 := cell_at hn4 2; have q3 := cell_at hn4 3; have q4 := cell_at hn4 4; have q5 := cell_at hn4 5; have q6 := cell_at hn4 6; have q7 := cell_at hn4 7; have q8 := cell_at hn4 8; have q9 := cell_at hn4 9; unfold NDc at q0 q1 q2 q3 q4 q5 q6 q7 q8 q9; simp at q0 q1 q2 q3 q4 q5 q6 q7 q8 q9; have hJ4 := hw4.1; clear hw4; replace hJ4 := Aside0.mk hJ4; replace hF4 := Aside0.mk hF4; replace hE4 := Aside0.mk hE4; replace hn4 := Aside0.mk hn4)))
 all_goals go_wp2_with fail
 refine (jtold w4 hJ4.out).mono ?_
 rintro e w5 ⟨rfl, hb5⟩
 have hF5 := Aside0.mk (((hF2.out.trans hF4.out (fun k hk h => by have := h.1; omega)).trans (Fr.of_below (S := fun _ => False) hb5) (fun _ _ h => h.elim)))
 clear hb5
 go_wp2
 (try simp only [Exit.inBlock, Exit.then])
 refine bodyPost_ret (v := .string (strOfNums out)) ?_ rfl ⟨rfl, hF5.out.mono (fun k hk h => by omega)⟩
 simp only [results]; go_simp
end H
end Go.Proofs.YtkihaebaccdjdaaGreatDoor
set_option linter.unusedVariables false
set_option linter.unusedSimpArgs false
namespace Go.Proofs.YtkihaebaccdjdaaGreatDoor
open Go.RowKit Go.Proofs.YtkihaebaccdjdaaGreatDoorW.PrintWords Go.Proofs.YtkihaebaccdjdaaGreatDoorW.PrintLast Go.Proofs.YtkihaebaccdjdaaGreatDoorW.PrintMore
namespace H
/-! ### impl.EncodeJSON: a text, and an object with one text -/
theorem ejOne (nm t : ByteArray) (num : Int) (item kn vn : ByteArray) (na ka : Nat) (a3 a4 : Option Addr) (n3 n4 c1 c2 c3 c4 : Nat)
 (s0 : ByteArray) (num0 : Int) (i0 k0 v0 : ByteArray) (d1 d2 d3 d4 : Option Addr) (r1 r2 r3 r4 e1 e2 e3 e4 : Nat) (w : World) (z1 z2 : Nat × Nat) (hT : Lib.Utf8Tabs 2 3 w) (h4 : 4 ≤ w.heap.size)
 (hna : w.heap[na]? = some (.cells #[.string nm] 9 z1)) (hka : w.heap[ka]? = some (.cells (NDc 0 s0 num0 (.slice d1 r1 e1) (.slice d2 r2 e2) (.slice d3 r3 e3) i0 k0 v0 (.slice d4 r4 e4)) 28 z2))
 (hs : nm.size ≤ 2147483647) (hs0 : s0.size ≤ 2147483647)
 (hl : (((([] ++ [123]) ++ [34] ++ esc decL nm.size (bytesOf nm) ++ [34] ++ [58]) ++ [34] ++ esc decL s0.size (bytesOf s0) ++ [34]) ++ [125]).length ≤ 140737488355328) :
 Calls Tryz.prog 16 #[ND 7 t num (.slice (some ⟨na, 0, none⟩) 1 c1) (.slice (some ⟨ka, 0, none⟩) 1 c2) (.slice a3 n3 c3) item kn vn (.slice a4 n4 c4)] w fun e w' => e = .returned (.string (strOfNums (((([] ++ [123]) ++ [34] ++ esc decL nm.size (bytesOf nm) ++ [34] ++ [58]) ++ [34] ++ esc decL s0.size (bytesOf s0) ++ [34]) ++ [125]))) ∧ Fr (fun k => w.heap.size ≤ k) w w' :=
 ejson (D := Lib.Utf8Tabs 2 3) 7 t num item kn vn (some ⟨na, 0, none⟩) (some ⟨ka, 0, none⟩) a3 a4 1 1 n3 n4 c1 c2 c3 c4 w hT hl (fun X w1 w' h hf => (decDD w.heap.size h4).keep X _ _ h hf)
  (fun b sc X w1 hJ hD hF => jin1 (decDD (w.heap.size + 1) (by omega)) nm t num item kn vn na ka a3 a4 n3 n4 c1 c2 c3 c4 s0 num0 i0 k0 v0 d1 d2 d3 d4 r1 r2 r3 r4 e1 e2 e3 e4 w1 hJ hD z1 z2
   (hF.heap hna (fun h => absurd h (by have := lt_of hna; omega))) (hF.heap hka (fun h => absurd h (by have := lt_of hka; omega))) (by have := lt_of hna; omega) (by have := lt_of hka; omega) hs hs0 hl)
end H
end Go.Proofs.YtkihaebaccdjdaaGreatDoor
set_option linter.unusedVariables false
set_option linter.unusedSimpArgs false
namespace Go.Proofs.YtkihaebaccdjdaaGreatDoor
open Go.RowKit Go.Proofs.YtkihaebaccdjdaaGreatDoorW.PrintWords Go.Proofs.YtkihaebaccdjdaaGreatDoorW.PrintLast Go.Proofs.YtkihaebaccdjdaaGreatDoorW.PrintMore
namespace H
/-! ### laws.boWorks -/
theorem bo1 : strOfNums (bytesOf ⟨#[65]⟩ ++ [61] ++ bytesOf ⟨#[120]⟩) = ⟨#[65, 61, 120]⟩ := by decide +kernel
theorem bo2 : strOfNums (((([] ++ [123]) ++ [34] ++ esc decL (⟨#[65]⟩ : ByteArray).size (bytesOf ⟨#[65]⟩) ++ [34] ++ [58]) ++ [34] ++ esc decL (⟨#[120]⟩ : ByteArray).size (bytesOf ⟨#[120]⟩) ++ [34]) ++ [125]) = ⟨#[123, 34, 65, 34, 58, 34, 120, 34, 125]⟩ := by decide +kernel
theorem bo3 : strOfNums (xone ⟨#[82]⟩ ⟨#[65]⟩ ⟨#[120]⟩) = ⟨#[60, 82, 62, 60, 65, 62, 120, 60, 47, 65, 62, 60, 47, 82, 62]⟩ := by decide +kernel
theorem bo4 : (((([] ++ [123]) ++ [34] ++ esc decL (⟨#[65]⟩ : ByteArray).size (bytesOf ⟨#[65]⟩) ++ [34] ++ [58]) ++ [34] ++ esc decL (⟨#[120]⟩ : ByteArray).size (bytesOf ⟨#[120]⟩) ++ [34]) ++ [125]).length ≤ 140737488355328 := by decide +kernel
theorem bo5 : (xone ⟨#[82]⟩ ⟨#[65]⟩ ⟨#[120]⟩).length ≤ 140737488355328 := by decide +kernel
theorem bo6 : ∀ c ∈ bytesOf ⟨#[65]⟩, should c 32 = false := by decide +kernel
theorem bo7 : ∀ c ∈ bytesOf ⟨#[120]⟩, should c 32 = false := by decide +kernel
set_option maxHeartbeats 8000000 in
set_option maxRecDepth 100000 in
theorem boworks (w : World) (hT : Tab w) (hU : Lib.Utf8Tabs 2 3 w) (h4 : 4 ≤ w.heap.size) :
 Calls Tryz.prog 10 #[] w fun e w' => e = .returned (.bool true) ∧ Fr (fun k => w.heap.size ≤ k) w w' := by
 replace hT := Aside0.mk hT; replace hU := Aside0.mk hU
 go_enter Tryz.func10, Tryz.ntmps10
 go_wp2_with fail
 have a0 := heap_new w (.cells #[.string ⟨#[65]⟩] 9)
 have b0 := below_alloc (Below.refl w.heap.size w) (.cells #[.string ⟨#[65]⟩] 9)
 have z0 : (w.alloc (.cells #[.string ⟨#[65]⟩] 9)).heap.size = w.heap.size + 1 := by simp
 generalize w.alloc (.cells #[.string ⟨#[65]⟩] 9) = w1 at *
 have a1 := heap_new w1 (.cells #[.int .i64 0, .string ⟨#[120]⟩, .int .i64 0, .slice none 0 0, .slice none 0 0, .slice none 0 0, .string ⟨#[]⟩, .string ⟨#[]⟩, .string ⟨#[]⟩, .slice none 0 0] 28)
 have b1 := below_alloc (b0) (.cells #[.int .i64 0, .string ⟨#[120]⟩, .int .i64 0, .slice none 0 0, .slice none 0 0, .slice none 0 0, .string ⟨#[]⟩, .string ⟨#[]⟩, .string ⟨#[]⟩, .slice none 0 0] 28)
 have z1 : (w1.alloc (.cells #[.int .i64 0, .string ⟨#[120]⟩, .int .i64 0, .slice none 0 0, .slice none 0 0, .slice none 0 0, .string ⟨#[]⟩, .string ⟨#[]⟩, .string ⟨#[]⟩, .slice none 0 0] 28)).heap.size = w1.heap.size + 1 := by simp
 replace a0 := heap_old a0 (.cells #[.int .i64 0, .string ⟨#[120]⟩, .int .i64 0, .slice none 0 0, .slice none 0 0, .slice none 0 0, .string ⟨#[]⟩, .string ⟨#[]⟩, .string ⟨#[]⟩, .slice none 0 0] 28)
 generalize w1.alloc (.cells #[.int .i64 0, .string ⟨#[120]⟩, .int .i64 0, .slice none 0 0, .slice none 0 0, .slice none 0 0, .string ⟨#[]⟩, .string ⟨#[]⟩, .string ⟨#[]⟩, .slice none 0 0] 28) = w2 at *
 rw [z0] at a1 z1
 have a2 := heap_new w2 (.cells #[.bool false] 4)
 have b2 := below_alloc (b1) (.cells #[.bool false] 4)
 have z2 : (w2.alloc (.cells #[.bool false] 4)).heap.size = w2.heap.size + 1 := by simp
 replace a0 := heap_old a0 (.cells #[.bool false] 4)
 replace a1 := heap_old a1 (.cells #[.bool false] 4)
 generalize w2.alloc (.cells #[.bool false] 4) = w3 at *
 rw [z1] at a2 z2
 have a3 := heap_new w3 (.cells #[.int .i64 7, .string ⟨#[]⟩, .int .i64 0, .slice (some ⟨w.heap.size, 0, none⟩) 1 1, .slice (some ⟨w.heap.size + 1, 0, none⟩) 1 1, .slice (some ⟨w.heap.size + 1 + 1, 0, none⟩) 1 1, .string ⟨#[]⟩, .string ⟨#[]⟩, .string ⟨#[]⟩, .slice none 0 0] 28)
 have b3 := below_alloc (b2) (.cells #[.int .i64 7, .string ⟨#[]⟩, .int .i64 0, .slice (some ⟨w.heap.size, 0, none⟩) 1 1, .slice (some ⟨w.heap.size + 1, 0, none⟩) 1 1, .slice (some ⟨w.heap.size + 1 + 1, 0, none⟩) 1 1, .string ⟨#[]⟩, .string ⟨#[]⟩, .string ⟨#[]⟩, .slice none 0 0] 28)
 have z3 : (w3.alloc (.cells #[.int .i64 7, .string ⟨#[]⟩, .int .i64 0, .slice (some ⟨w.heap.size, 0, none⟩) 1 1, .slice (some ⟨w.heap.size + 1, 0, none⟩) 1 1, .slice (some ⟨w.heap.size + 1 + 1, 0, none⟩) 1 1, .string ⟨#[]⟩, .string ⟨#[]⟩, .string ⟨#[]⟩, .slice none 0 0] 28)).heap.size = w3.heap.size + 1 := by simp
 replace a0 := heap_old a0 (.cells #[.int .i64 7, .string ⟨#[]⟩, .int .i64 0, .slice (some ⟨w.heap.size, 0, none⟩) 1 1, .slice (some ⟨w.heap.size + 1, 0, none⟩) 1 1, .slice (some ⟨w.heap.size + 1 + 1, 0, none⟩) 1 1, .string ⟨#[]⟩, .string ⟨#[]⟩, .string ⟨#[]⟩, .slice none 0 0] 28)
 replace a1 := heap_old a1 (.cells #[.int .i64 7, .string ⟨#[]⟩, .int .i64 0, .slice (some ⟨w.heap.size, 0, none⟩) 1 1, .slice (some ⟨w.heap.size + 1, 0, none⟩) 1 1, .slice (some ⟨w.heap.size + 1 + 1, 0, none⟩) 1 1, .string ⟨#[]⟩, .string ⟨#[]⟩, .string ⟨#[]⟩, .slice none 0 0] 28)
 replace a2 := heap_old a2 (.cells #[.int .i64 7, .string ⟨#[]⟩, .int .i64 0, .slice (some ⟨w.heap.size, 0, none⟩) 1 1, .slice (some ⟨w.heap.size + 1, 0, none⟩) 1 1, .slice (some ⟨w.heap.size + 1 + 1, 0, none⟩) 1 1, .string ⟨#[]⟩, .string ⟨#[]⟩, .string ⟨#[]⟩, .slice none 0 0] 28)
 generalize w3.alloc (.cells #[.int .i64 7, .string ⟨#[]⟩, .int .i64 0, .slice (some ⟨w.heap.size, 0, none⟩) 1 1, .slice (some ⟨w.heap.size + 1, 0, none⟩) 1 1, .slice (some ⟨w.heap.size + 1 + 1, 0, none⟩) 1 1, .string ⟨#[]⟩, .string ⟨#[]⟩, .string ⟨#[]⟩, .slice none 0 0] 28) = w4 at *
 rw [z2] at a3 z3
 obtain ⟨g, hg⟩ : ∃ g, w.heap.size = g := ⟨_, rfl⟩
 rw [hg] at a0 a1 a2 a3 z3 ⊢
 have hb := Aside0.mk b3
 clear b0 b1 b2 b3 z0 z1 z2
 have q0 := cell_at a3 0
 have q1 := cell_at a3 1
 have q2 := cell_at a3 2
 have q3 := cell_at a3 3
 have q4 := cell_at a3 4
 have q5 := cell_at a3 5
 have q6 := cell_at a3 6
 have q7 := cell_at a3 7
 have q8 := cell_at a3 8
 have q9 := cell_at a3 9
 simp at q0 q1 q2 q3 q4 q5 q6 q7 q8 q9
 replace a0 := Aside0.mk a0
 replace a1 := Aside0.mk a1
 replace a2 := Aside0.mk a2
 replace a3 := Aside0.mk a3
 replace z3 := Aside0.mk z3
 have hT4 := Aside0.mk (hT.out.below hb.out)
 have hU4 := Aside0.mk (Utf8Tabs_below hU.out hb.out)
 have hF4 : Aside0 (Fr (fun k => w.heap.size ≤ k) w w4) := .mk (Fr.of_below hb.out)
 have hlo4 : Aside0 (4 ≤ w4.heap.size) := .mk (by have := z3.out; omega)
 clear z3 hb hT hU
 have h0 := efOne ⟨#[65]⟩ ⟨#[]⟩ 0 ⟨#[]⟩ ⟨#[]⟩ ⟨#[]⟩ g (g + 1) (g + 1 + 1) none 0 1 1 1 0 ⟨#[120]⟩ 0 ⟨#[]⟩ ⟨#[]⟩ ⟨#[]⟩ none none none none 0 0 0 0 0 0 0 0 (0, 0) (0, 0) (0, 0) w4 hT4.out (by have := hlo4.out; omega) (by decide) (by decide) bo6 bo7 a0.out a1.out a2.out
 rw [bo1] at h0
 unfold ND at h0
 replace h0 := Aside0.mk h0
 refine h0.out.mono ?_
 rintro e w5 ⟨rfl, hF⟩
 clear h0
 replace a0 := hF.heap a0.out (fun h => by have := lt_of a0.out; omega)
 replace a1 := hF.heap a1.out (fun h => by have := lt_of a1.out; omega)
 replace a2 := hF.heap a2.out (fun h => by have := lt_of a2.out; omega)
 replace a3 := hF.heap a3.out (fun h => by have := lt_of a3.out; omega)
 clear q0 q1 q2 q3 q4 q5 q6 q7 q8 q9
 have q0 := cell_at a3 0
 have q1 := cell_at a3 1
 have q2 := cell_at a3 2
 have q3 := cell_at a3 3
 have q4 := cell_at a3 4
 have q5 := cell_at a3 5
 have q6 := cell_at a3 6
 have q7 := cell_at a3 7
 have q8 := cell_at a3 8
 have q9 := cell_at a3 9
 simp at q0 q1 q2 q3 q4 q5 q6 q7 q8 q9
 replace a0 := Aside0.mk a0
 replace a1 := Aside0.mk a1
 replace a2 := Aside0.mk a2
 replace a3 := Aside0.mk a3
 replace hT4 := Aside0.mk (hT4.out.fr hF (fun h => by have := hlo4.out; omega))
 replace hU4 := Aside0.mk (tabs_fr hU4.out hF (fun h => by have := hlo4.out; omega) (fun h => by have := hlo4.out; omega))
 have hs := hF.size
 replace hF4 := Aside0.mk (hF4.out.trans hF (fun k _ h => by have := hF4.out.size; omega))
 replace hlo4 := Aside0.mk (Nat.le_trans hlo4.out hs)
 clear hF hs
 have h1 := ejOne ⟨#[65]⟩ ⟨#[]⟩ 0 ⟨#[]⟩ ⟨#[]⟩ ⟨#[]⟩ g (g + 1) (some ⟨g + 1 + 1, 0, none⟩) none 1 0 1 1 1 0 ⟨#[120]⟩ 0 ⟨#[]⟩ ⟨#[]⟩ ⟨#[]⟩ none none none none 0 0 0 0 0 0 0 0 w5 (0, 0) (0, 0) hU4.out hlo4.out a0.out a1.out (by decide) (by decide) bo4
 rw [bo2] at h1
 unfold ND at h1
 replace h1 := Aside0.mk h1
 go_wp2_with fail
 refine h1.out.mono ?_
 rintro e w6 ⟨rfl, hF⟩
 clear h1
 replace a0 := hF.heap a0.out (fun h => by have := lt_of a0.out; omega)
 replace a1 := hF.heap a1.out (fun h => by have := lt_of a1.out; omega)
 replace a2 := hF.heap a2.out (fun h => by have := lt_of a2.out; omega)
 replace a3 := hF.heap a3.out (fun h => by have := lt_of a3.out; omega)
 clear q0 q1 q2 q3 q4 q5 q6 q7 q8 q9
 have q0 := cell_at a3 0
 have q1 := cell_at a3 1
 have q2 := cell_at a3 2
 have q3 := cell_at a3 3
 have q4 := cell_at a3 4
 have q5 := cell_at a3 5
 have q6 := cell_at a3 6
 have q7 := cell_at a3 7
 have q8 := cell_at a3 8
 have q9 := cell_at a3 9
 simp at q0 q1 q2 q3 q4 q5 q6 q7 q8 q9
 replace a0 := Aside0.mk a0
 replace a1 := Aside0.mk a1
 replace a2 := Aside0.mk a2
 replace a3 := Aside0.mk a3
 replace hT4 := Aside0.mk (hT4.out.fr hF (fun h => by have := hlo4.out; omega))
 replace hU4 := Aside0.mk (tabs_fr hU4.out hF (fun h => by have := hlo4.out; omega) (fun h => by have := hlo4.out; omega))
 have hs := hF.size
 replace hF4 := Aside0.mk (hF4.out.trans hF (fun k _ h => by have := hF4.out.size; omega))
 replace hlo4 := Aside0.mk (Nat.le_trans hlo4.out hs)
 clear hF hs
 have h2 := exOne ⟨#[82]⟩ ⟨#[65]⟩ ⟨#[]⟩ 0 ⟨#[]⟩ ⟨#[]⟩ ⟨#[]⟩ g (g + 1) (g + 1 + 1) 1 1 1 ⟨#[120]⟩ 0 ⟨#[]⟩ ⟨#[]⟩ ⟨#[]⟩ none none none 0 0 0 0 0 0 (0, 0) (0, 0) (0, 0) w6 hU4.out hlo4.out (by decide) (by decide) (by decide) (by decide) (by decide) bo5 a0.out a1.out a2.out
 rw [bo3] at h2
 unfold ND at h2
 replace h2 := Aside0.mk h2
 go_wp2_with fail
 refine h2.out.mono ?_
 rintro e w7 ⟨rfl, hF⟩
 clear h2
 replace a0 := hF.heap a0.out (fun h => by have := lt_of a0.out; omega)
 replace a1 := hF.heap a1.out (fun h => by have := lt_of a1.out; omega)
 replace a2 := hF.heap a2.out (fun h => by have := lt_of a2.out; omega)
 replace a3 := hF.heap a3.out (fun h => by have := lt_of a3.out; omega)
 clear q0 q1 q2 q3 q4 q5 q6 q7 q8 q9
 have q0 := cell_at a3 0
 have q1 := cell_at a3 1
 have q2 := cell_at a3 2
 have q3 := cell_at a3 3
 have q4 := cell_at a3 4
 have q5 := cell_at a3 5
 have q6 := cell_at a3 6
 have q7 := cell_at a3 7
 have q8 := cell_at a3 8
 have q9 := cell_at a3 9
 simp at q0 q1 q2 q3 q4 q5 q6 q7 q8 q9
 replace a0 := Aside0.mk a0
 replace a1 := Aside0.mk a1
 replace a2 := Aside0.mk a2
 replace a3 := Aside0.mk a3
 replace hT4 := Aside0.mk (hT4.out.fr hF (fun h => by have := hlo4.out; omega))
 replace hU4 := Aside0.mk (tabs_fr hU4.out hF (fun h => by have := hlo4.out; omega) (fun h => by have := hlo4.out; omega))
 have hs := hF.size
 replace hF4 := Aside0.mk (hF4.out.trans hF (fun k _ h => by have := hF4.out.size; omega))
 replace hlo4 := Aside0.mk (Nat.le_trans hlo4.out hs)
 clear hF hs
 go_wp2
 go_ret
 exact ⟨rfl, hF4.out⟩
end H
end Go.Proofs.YtkihaebaccdjdaaGreatDoor
set_option linter.unusedVariables false
set_option linter.unusedSimpArgs false
namespace Go.Proofs.YtkihaebaccdjdaaGreatDoor
namespace H
/-! ### What the encoder of JSON writes for a text is UTF-8, and reads back -/
/-- What stands for a sign. -/
def escR (x : Int) : List Int := if x < 128 then (if safeC x then [x] else escB x) else if x = 8232 ∨ x = 8233 then [92, 117, 50, 48, 50, hexD (x % 16)] else utf8E x
/-- What stands behind a backslash, where it is one that the encoder writes. -/
inductive Esc1 : List Int → List Int → Prop
 | self (c : Int) (h : c = 34 ∨ c = 92) : Esc1 [c] [c]
 | n : Esc1 [110] [10]
 | r : Esc1 [114] [13]
 | t : Esc1 [116] [9]
 | u (a b c d : Int) (h0 : 0 ≤ a ∧ a < 16) (h1 : 0 ≤ b ∧ b < 16) (h2 : 0 ≤ c ∧ c < 16) (h3 : 0 ≤ d ∧ d < 16) (x : Int) (hx : x = ((a * 16 + b) * 16 + c) * 16 + d) (hs : x < 55296) : Esc1 [117, hexD a, hexD b, hexD c, hexD d] (utf8E x)
/-- A string of JSON, up to its end. -/
inductive Read1 : List Int → List Int → Prop
 | nil : Read1 [] []
 | plain (c : Int) (h : 32 ≤ c ∧ c < 256 ∧ c ≠ 34 ∧ c ≠ 92) {a b : List Int} (k : Read1 a b) : Read1 (c :: a) (c :: b)
 | esc {y z : List Int} (h : Esc1 y z) {a b : List Int} (k : Read1 a b) : Read1 (92 :: (y ++ a)) (z ++ b)
end H
end Go.Proofs.YtkihaebaccdjdaaGreatDoor
