import Derived.Test.YtkihaebaccdjdaaGreatDoorK27
import Derived.Test.YtkihaebaccdjdaaGreatDoorK18
set_option linter.unusedVariables false
set_option linter.unusedSimpArgs false
namespace Go.Proofs.YtkihaebaccdjdaaGreatDoor
open Go.RowKit Go.Proofs.YtkihaebaccdjdaaGreatDoorW.PrintWords Go.Proofs.YtkihaebaccdjdaaGreatDoorW.PrintLast Go.Proofs.YtkihaebaccdjdaaGreatDoorW.PrintMore
namespace H
/-! ### impl.EncodeJSON -/
set_option maxHeartbeats 2000000 in
set_option maxRecDepth 100000 in
theorem ejson {D : World → Prop} {out : List Int} (kd : Int) (s0 : ByteArray) (num0 : Int) (i0 k0 v0 : ByteArray) (d1 d2 d3 d4 : Option Addr) (r1 r2 r3 r4 u1 u2 u3 u4 : Nat) (w : World) (hD : D w) (hl : out.length ≤ 140737488355328)
    (hk : ∀ (X : Nat → Prop) (w1 w' : World), D w1 → Fr (fun k => w.heap.size ≤ k ∧ ¬ X k) w1 w' → D w')
    (hin : ∀ (b sc : Nat) (X : Nat → Prop) (w1 : World), JB 150 (w.heap.size + 1) X b [] w1 → D w1 → Fr (fun k => w.heap.size ≤ k) w w1 → Calls Tryz.prog 39 #[.agg #[.pointer (some ⟨b, 0, none⟩), .pointer (some ⟨sc, 0, none⟩)], ND kd s0 num0 (.slice d1 r1 u1) (.slice d2 r2 u2) (.slice d3 r3 u3) i0 k0 v0 (.slice d4 r4 u4)] w1 fun e w' => e = .returned (.tuple #[]) ∧ Wrote 150 (w.heap.size + 1) X b out w1 w' ∧ D w') :
    Calls Tryz.prog 16 #[ND kd s0 num0 (.slice d1 r1 u1) (.slice d2 r2 u2) (.slice d3 r3 u3) i0 k0 v0 (.slice d4 r4 u4)] w fun e w' => e = .returned (.string (strOfNums out)) ∧ Fr (fun k => w.heap.size ≤ k) w w' := by
  replace hD := Aside0.mk hD; replace hk := Aside0.mk hk; replace hin := Aside0.mk hin
  unfold ND at hin ⊢
  go_enter Tryz.func16, Tryz.ntmps16
  go_wp2_with fail
  have hb := below_alloc (Below.refl w.heap.size w) (.cells (NDc kd s0 num0 (.slice d1 r1 u1) (.slice d2 r2 u2) (.slice d3 r3 u3) i0 k0 v0 (.slice d4 r4 u4)) 28)
  have hsz : (w.alloc (.cells (NDc kd s0 num0 (.slice d1 r1 u1) (.slice d2 r2 u2) (.slice d3 r3 u3) i0 k0 v0 (.slice d4 r4 u4)) 28)).heap.size = w.heap.size + 1 := by simp
  have hE := jnewE (w.alloc (.cells (NDc kd s0 num0 (.slice d1 r1 u1) (.slice d2 r2 u2) (.slice d3 r3 u3) i0 k0 v0 (.slice d4 r4 u4)) 28))
  rw [hsz] at hE
  have hnd := heap_new w (.cells (NDc kd s0 num0 (.slice d1 r1 u1) (.slice d2 r2 u2) (.slice d3 r3 u3) i0 k0 v0 (.slice d4 r4 u4)) 28)
  unfold NDc at hb hsz hE hnd
  generalize w.alloc (.cells #[.int .i64 kd, .string s0, .int .i64 num0, .slice d1 r1 u1, .slice d2 r2 u2, .slice d3 r3 u3, .string i0, .string k0, .string v0, .slice d4 r4 u4] 28) = w1 at *
  refine hE.mono ?_
  rintro e w2 ⟨b, sc, eb, rfl, hJ, heb, hE2, hb2⟩
  obtain ⟨nb, hnb⟩ : ∃ nb, w.heap.size = nb := ⟨_, rfl⟩
  rw [← hsz] at hb2
  have hF2 := Aside0.mk ((Fr.of_below (S := fun k => w.heap.size ≤ k) hb).trans (Fr.of_below (S := fun _ => False) hb2) (fun _ _ h => h.elim))
  have hD2 := Aside0.mk (hk.out (fun k => k < w.heap.size) _ _ hD.out (hF2.out.mono (fun k _ h => ⟨h, by omega⟩)))
  have c0 := cell_at hE2 0; have c1 := cell_at hE2 1; have c2 := cell_at hE2 2
  simp at c0 c1 c2
  replace hJ := Aside0.mk hJ; replace hE2 := Aside0.mk hE2; replace hb := Aside0.mk hb; replace hb2 := Aside0.mk hb2
  have hn2 := heap_below hb2.out hnd
  rw [hnb] at hn2 heb ⊢
  have q0 := cell_at hn2 0; have q1 := cell_at hn2 1; have q2 := cell_at hn2 2; have q3 := cell_at hn2 3; have q4 := cell_at hn2 4; have q5 := cell_at hn2 5; have q6 := cell_at hn2 6; have q7 := cell_at hn2 7; have q8 := cell_at hn2 8; have q9 := cell_at hn2 9; unfold NDc at q0 q1 q2 q3 q4 q5 q6 q7 q8 q9; simp at q0 q1 q2 q3 q4 q5 q6 q7 q8 q9
  replace hn2 := Aside0.mk hn2
  clear hE hnd
  go_wp2_with fail
  go_region_held3 (fun w' => w'.cell? ⟨eb, 1, none⟩ = some (.pointer (some ⟨b, 0, none⟩)) ∧ w'.cell? ⟨eb, 2, none⟩ = some (.pointer (some ⟨sc, 0, none⟩)) ∧ w'.cell? ⟨nb, 0, none⟩ = some (.int .i64 kd) ∧ w'.cell? ⟨nb, 1, none⟩ = some (.string s0) ∧ w'.cell? ⟨nb, 2, none⟩ = some (.int .i64 num0) ∧ w'.cell? ⟨nb, 3, none⟩ = some (.slice d1 r1 u1) ∧ w'.cell? ⟨nb, 4, none⟩ = some (.slice d2 r2 u2) ∧ w'.cell? ⟨nb, 5, none⟩ = some (.slice d3 r3 u3) ∧ w'.cell? ⟨nb, 6, none⟩ = some (.string i0) ∧ w'.cell? ⟨nb, 7, none⟩ = some (.string k0) ∧ w'.cell? ⟨nb, 8, none⟩ = some (.string v0) ∧ w'.cell? ⟨nb, 9, none⟩ = some (.slice d4 r4 u4)) (simp [*, World.cell?_setCell_far]) (first | ((go_at_call 39; refine (hin.out b sc (fun k => k = eb) _ (hJ.out.calm (drewB _)) (hk.out (fun _ => False) _ _ hD2.out (Fr.of_below (drewB _))) (hF2.out.trans (Fr.of_below (S := fun _ => False) (drewB _)) (fun _ _ h => h.elim))).mono ?_; rintro e w4 ⟨rfl, hw4, hD4⟩; have hF4 := undrewF hw4.2; have hE4 := hF4.heap hE2.out (fun e => e.2 rfl); have hn4 := hF4.heap hn2.out (fun e => absurd e.1 (by omega)); have c1 := cell_at hE4 1; have c0 := cell_at hE4 0; have c2 := cell_at hE4 2; simp at c0 c1 c2; have q0 := cell_at hn4 0; have q1 := cell_at hn4 1; have q2 := cell_at hn4 2; have q3 := cell_at hn4 3; have q4 := cell_at hn4 4; have q5 := cell_at hn4 5; have q6 := cell_at hn4 6; have q7 := cell_at hn4 7; have q8 := cell_at hn4 8; have q9 := cell_at hn4 9; unfold NDc at q0 q1 q2 q3 q4 q5 q6 q7 q8 q9; simp at q0 q1 q2 q3 q4 q5 q6 q7 q8 q9; have hJ4 := hw4.1; clear hw4; replace hJ4 := Aside0.mk hJ4; replace hF4 := Aside0.mk hF4; replace hE4 := Aside0.mk hE4; replace hn4 := Aside0.mk hn4)))
  all_goals go_wp2_with fail
  refine (jtold w4 hJ4.out).mono ?_
  rintro e w5 ⟨rfl, hb5⟩
  have hF5 := Aside0.mk (((hF2.out.trans hF4.out (fun k hk h => by have := h.1; omega)).trans (Fr.of_below (S := fun _ => False) hb5) (fun _ _ h => h.elim)))
  clear hb5
  go_wp2
  (try simp only [Exit.inBlock, Exit.then])
  refine bodyPost_ret (v := .string (strOfNums out)) ?_ rfl ⟨rfl, hF5.out.mono (fun k hk h => by omega)⟩
  simp only [results]; go_simp
end H
end Go.Proofs.YtkihaebaccdjdaaGreatDoor
set_option linter.unusedVariables false
set_option linter.unusedSimpArgs false
namespace Go.Proofs.YtkihaebaccdjdaaGreatDoor
open Go.RowKit Go.Proofs.YtkihaebaccdjdaaGreatDoorW.PrintWords Go.Proofs.YtkihaebaccdjdaaGreatDoorW.PrintLast Go.Proofs.YtkihaebaccdjdaaGreatDoorW.PrintMore
namespace H
/-! ### impl.EncodeJSON: a text, and an object with one text -/
theorem ejText (s : ByteArray) (num : Int) (item kn vn : ByteArray) (a1 a2 a3 a4 : Option Addr) (n1 n2 n3 n4 c1 c2 c3 c4 : Nat) (w : World) (hT : Lib.Utf8Tabs 2 3 w) (h4 : 4 ≤ w.heap.size) (hs : s.size ≤ 2147483647) (hl : ([] ++ [34] ++ esc decL s.size (bytesOf s) ++ [34]).length ≤ 140737488355328) :
    Calls Tryz.prog 16 #[ND 0 s num (.slice a1 n1 c1) (.slice a2 n2 c2) (.slice a3 n3 c3) item kn vn (.slice a4 n4 c4)] w fun e w' => e = .returned (.string (strOfNums ([] ++ [34] ++ esc decL s.size (bytesOf s) ++ [34]))) ∧ Fr (fun k => w.heap.size ≤ k) w w' :=
  ejson (D := Lib.Utf8Tabs 2 3) 0 s num item kn vn a1 a2 a3 a4 n1 n2 n3 n4 c1 c2 c3 c4 w hT hl (fun X w1 w' h hf => (decDD w.heap.size h4).keep X _ _ h hf)
    (fun b sc X w1 hJ hD hF => jin0 (decDD (w.heap.size + 1) (by omega)) s num item kn vn a1 a2 a3 a4 n1 n2 n3 n4 c1 c2 c3 c4 w1 hJ hD hs hl)
theorem ejOne (nm t : ByteArray) (num : Int) (item kn vn : ByteArray) (na ka : Nat) (a3 a4 : Option Addr) (n3 n4 c1 c2 c3 c4 : Nat)
    (s0 : ByteArray) (num0 : Int) (i0 k0 v0 : ByteArray) (d1 d2 d3 d4 : Option Addr) (r1 r2 r3 r4 e1 e2 e3 e4 : Nat) (w : World) (z1 z2 : Nat × Nat) (hT : Lib.Utf8Tabs 2 3 w) (h4 : 4 ≤ w.heap.size)
    (hna : w.heap[na]? = some (.cells #[.string nm] 9 z1)) (hka : w.heap[ka]? = some (.cells (NDc 0 s0 num0 (.slice d1 r1 e1) (.slice d2 r2 e2) (.slice d3 r3 e3) i0 k0 v0 (.slice d4 r4 e4)) 28 z2))
    (hs : nm.size ≤ 2147483647) (hs0 : s0.size ≤ 2147483647)
    (hl : (((([] ++ [123]) ++ [34] ++ esc decL nm.size (bytesOf nm) ++ [34] ++ [58]) ++ [34] ++ esc decL s0.size (bytesOf s0) ++ [34]) ++ [125]).length ≤ 140737488355328) :
    Calls Tryz.prog 16 #[ND 7 t num (.slice (some ⟨na, 0, none⟩) 1 c1) (.slice (some ⟨ka, 0, none⟩) 1 c2) (.slice a3 n3 c3) item kn vn (.slice a4 n4 c4)] w fun e w' => e = .returned (.string (strOfNums (((([] ++ [123]) ++ [34] ++ esc decL nm.size (bytesOf nm) ++ [34] ++ [58]) ++ [34] ++ esc decL s0.size (bytesOf s0) ++ [34]) ++ [125]))) ∧ Fr (fun k => w.heap.size ≤ k) w w' :=
  ejson (D := Lib.Utf8Tabs 2 3) 7 t num item kn vn (some ⟨na, 0, none⟩) (some ⟨ka, 0, none⟩) a3 a4 1 1 n3 n4 c1 c2 c3 c4 w hT hl (fun X w1 w' h hf => (decDD w.heap.size h4).keep X _ _ h hf)
    (fun b sc X w1 hJ hD hF => jin1 (decDD (w.heap.size + 1) (by omega)) nm t num item kn vn na ka a3 a4 n3 n4 c1 c2 c3 c4 s0 num0 i0 k0 v0 d1 d2 d3 d4 r1 r2 r3 r4 e1 e2 e3 e4 w1 hJ hD z1 z2
      (hF.heap hna (fun h => absurd h (by have := lt_of hna; omega))) (hF.heap hka (fun h => absurd h (by have := lt_of hka; omega))) (by have := lt_of hna; omega) (by have := lt_of hka; omega) hs hs0 hl)
end H
end Go.Proofs.YtkihaebaccdjdaaGreatDoor
