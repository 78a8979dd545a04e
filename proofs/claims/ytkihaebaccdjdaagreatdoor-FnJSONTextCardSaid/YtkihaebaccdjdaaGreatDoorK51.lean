import Derived.Test.YtkihaebaccdjdaaGreatDoorK50
import Derived.Test.YtkihaebaccdjdaaGreatDoorK26
import Derived.Deep.RegionHeld3
set_option linter.unusedVariables false
set_option linter.unusedSimpArgs false
namespace Go.Proofs.YtkihaebaccdjdaaGreatDoor
open Go.RowKit Go.Proofs.YtkihaebaccdjdaaGreatDoorW.PrintWords Go.Proofs.YtkihaebaccdjdaaGreatDoorW.PrintLast Go.Proofs.YtkihaebaccdjdaaGreatDoorW.PrintMore
open PX
namespace H
/-! ### spec.Text of a text, reader.value of a string, SaysJSON -/
set_option maxRecDepth 100000 in
theorem text0 (s : ByteArray) (num : Int) (w : World) : Calls Tryz.prog 82 #[.int .i64 0, .string s, .int .i64 num] w fun e w' => e = .returned (.string s) ∧ Below w.heap.size w w' := by
  go_enter Tryz.func82, Tryz.ntmps82
  go_wp2
  go_ret
  exact ⟨rfl, Below.refl _ _⟩
theorem drewB0 (B : Nat) (w : World) : Below B w w.drew := ⟨rfl, rfl, rfl, Nat.le_refl _, fun _ _ => rfl⟩
theorem keep_undrew {w w' : World} {g : Nat} {r : Option Nat} (h : KeepBut w.drew w' g r) : KeepBut w w' g r := h
theorem below_low {B : Nat} {w w' : World} (h : Below w.heap.size w w') {g : Nat} (hg : B ≤ g) (hg' : g < w.heap.size) : Below B w w' := ⟨h.os, h.tape, h.output, h.size, fun k hk => h.block k (by omega)⟩
set_option maxHeartbeats 8000000 in
set_option maxRecDepth 100000 in
theorem valT {T rs rs' : ByteArray} {k g : Nat} (kd : Int) (s : ByteArray) (num : Int) (item kn vn : ByteArray) (a1 a2 a3 a4 : Option Addr) (n1 n2 n3 n4 c1 c2 c3 c4 : Nat) (w0 w : World) (hkd : kd = 0 ∨ kd = 6) (hX : ∀ w : World, Calls Tryz.prog 82 #[.int .i64 kd, .string s, .int .i64 num] w fun e w' => e = .returned (.string T) ∧ Below w.heap.size w w')
    (hI : IsS80 w0 w g rs false) (hB : Below w0.heap.size w0 w) (hf : spec_reader_text.f k rs false = some (T, rs', false)) :
    Calls Tryz.prog 36 #[.pointer (some ⟨g, 0, none⟩), ND kd s num (.slice a1 n1 c1) (.slice a2 n2 c2) (.slice a3 n3 c3) item kn vn (.slice a4 n4 c4)] w fun e w' => e = .returned (.tuple #[]) ∧ IsS80 w0 w' g rs' false ∧ Below w0.heap.size w0 w' ∧ KeepBut w w' g none := by
  replace hX := Aside0.mk hX; replace hf := Aside0.mk hf
  have hb := below_alloc (Below.refl w.heap.size w) (.cells #[.int .i64 kd, .string s, .int .i64 num, .slice a1 n1 c1, .slice a2 n2 c2, .slice a3 n3 c3, .string item, .string kn, .string vn, .slice a4 n4 c4] 28)
  have hk1 := heap_new w (.cells #[.int .i64 kd, .string s, .int .i64 num, .slice a1 n1 c1, .slice a2 n2 c2, .slice a3 n3 c3, .string item, .string kn, .string vn, .slice a4 n4 c4] 28)
  have hI1 := Aside0.mk (hI.below hb)
  have hB1 := Aside0.mk (hB.trans (below_low hb (IsS80.ge hI) (IsS80.lt hI)))
  have hgn : Aside0 (w.heap.size ≠ g) := .mk (by have := IsS80.lt hI; omega)
  have hK1 := Aside0.mk (KeepBut.of_below hb g none)
  replace hk1 := Aside0.mk hk1
  clear hI hB hb
  unfold ND
  rcases hkd with rfl | rfl
  · go_enter Tryz.func36, Tryz.ntmps36
    go_wp2_with fail
    generalize w.alloc (.cells #[.int .i64 0, .string s, .int .i64 num, .slice a1 n1 c1, .slice a2 n2 c2, .slice a3 n3 c3, .string item, .string kn, .string vn, .slice a4 n4 c4] 28) = w1 at *
    obtain ⟨nb, hnb⟩ : ∃ nb, w.heap.size = nb := ⟨_, rfl⟩
    rw [hnb] at hk1 hgn ⊢
    have hk := hk1.out
    have q0 := cell_at hk 0; have q1 := cell_at hk 1; have q2 := cell_at hk 2
    simp at q0 q1 q2
    clear hk
    go_region_held3 (fun w' => w'.cell? ⟨nb, 0, none⟩ = some (.int .i64 0) ∧ w'.cell? ⟨nb, 1, none⟩ = some (.string s) ∧ w'.cell? ⟨nb, 2, none⟩ = some (.int .i64 num)) (simp [*, World.cell?_setCell_far]) (first | ((go_at_call 84; refine (spec_reader_text.calls k g rs false T rs' false w0 w1.drew hI1.out.drew (hB1.out.trans (drewB0 _ _)) hf.out).mono ?_; rintro e w2 ⟨rfl, hI2, hB2, hK2⟩; have hk2 := hK2.2 nb (lt_of hk1.out) hgn.out (by simp); replace hk2 := hk2.trans hk1.out; have q0 := cell_at hk2 0; have q1 := cell_at hk2 1; have q2 := cell_at hk2 2; simp at q0 q1 q2; replace hI2 := Aside0.mk hI2; replace hB2 := Aside0.mk hB2; replace hK2 := Aside0.mk (keep_undrew hK2); replace hk2 := Aside0.mk hk2)) | ((go_at_call 82; refine (hX.out w2).mono ?_; rintro e w3 ⟨rfl, hb⟩; have hI3 := Aside0.mk (hI2.out.below hb); have hB3 := Aside0.mk (hB2.out.trans (below_low hb (IsS80.ge hI2.out) (IsS80.lt hI2.out))); have hK3 := Aside0.mk (hK2.out.trans (KeepBut.of_below hb g none) (.inl rfl)); have hk3 := heap_below hb hk2.out; have q0 := cell_at hk3 0; have q1 := cell_at hk3 1; have q2 := cell_at hk3 2; simp at q0 q1 q2; clear hb; replace hk3 := Aside0.mk hk3)))
    all_goals
      go_wp2
      refine bodyPost_end (results_none rfl _ _ _) rfl ?_
      exact ⟨rfl, hI3.out, hB3.out, hK1.out.trans hK3.out (.inl rfl)⟩
  · go_enter Tryz.func36, Tryz.ntmps36
    go_wp2_with fail
    generalize w.alloc (.cells #[.int .i64 6, .string s, .int .i64 num, .slice a1 n1 c1, .slice a2 n2 c2, .slice a3 n3 c3, .string item, .string kn, .string vn, .slice a4 n4 c4] 28) = w1 at *
    obtain ⟨nb, hnb⟩ : ∃ nb, w.heap.size = nb := ⟨_, rfl⟩
    rw [hnb] at hk1 hgn ⊢
    have hk := hk1.out
    have q0 := cell_at hk 0; have q1 := cell_at hk 1; have q2 := cell_at hk 2
    simp at q0 q1 q2
    clear hk
    go_region_held3 (fun w' => w'.cell? ⟨nb, 0, none⟩ = some (.int .i64 6) ∧ w'.cell? ⟨nb, 1, none⟩ = some (.string s) ∧ w'.cell? ⟨nb, 2, none⟩ = some (.int .i64 num)) (simp [*, World.cell?_setCell_far]) (first | ((go_at_call 84; refine (spec_reader_text.calls k g rs false T rs' false w0 w1.drew hI1.out.drew (hB1.out.trans (drewB0 _ _)) hf.out).mono ?_; rintro e w2 ⟨rfl, hI2, hB2, hK2⟩; have hk2 := hK2.2 nb (lt_of hk1.out) hgn.out (by simp); replace hk2 := hk2.trans hk1.out; have q0 := cell_at hk2 0; have q1 := cell_at hk2 1; have q2 := cell_at hk2 2; simp at q0 q1 q2; replace hI2 := Aside0.mk hI2; replace hB2 := Aside0.mk hB2; replace hK2 := Aside0.mk (keep_undrew hK2); replace hk2 := Aside0.mk hk2)) | ((go_at_call 82; refine (hX.out w2).mono ?_; rintro e w3 ⟨rfl, hb⟩; have hI3 := Aside0.mk (hI2.out.below hb); have hB3 := Aside0.mk (hB2.out.trans (below_low hb (IsS80.ge hI2.out) (IsS80.lt hI2.out))); have hK3 := Aside0.mk (hK2.out.trans (KeepBut.of_below hb g none) (.inl rfl)); have hk3 := heap_below hb hk2.out; have q0 := cell_at hk3 0; have q1 := cell_at hk3 1; have q2 := cell_at hk3 2; simp at q0 q1 q2; clear hb; replace hk3 := Aside0.mk hk3)))
    all_goals
      go_wp2
      refine bodyPost_end (results_none rfl _ _ _) rfl ?_
      exact ⟨rfl, hI3.out, hB3.out, hK1.out.trans hK3.out (.inl rfl)⟩
set_option maxHeartbeats 8000000 in
set_option maxRecDepth 100000 in
theorem saysT {T rs' o : ByteArray} {k : Nat} (kd : Int) (s : ByteArray) (num : Int) (item kn vn : ByteArray) (a1 a2 a3 a4 : Option Addr) (n1 n2 n3 n4 c1 c2 c3 c4 : Nat) (w : World) (hkd : kd = 0 ∨ kd = 6) (hX : ∀ w : World, Calls Tryz.prog 82 #[.int .i64 kd, .string s, .int .i64 num] w fun e w' => e = .returned (.string T) ∧ Below w.heap.size w w')
    (hu : U8 (fun _ => true) (bytesOf o)) (ho : o.size ≤ 2147483647) (hf : spec_reader_text.f k o false = some (T, rs', false)) (he : bytesOf rs' = []) :
    Calls Tryz.prog 15 #[.string o, ND kd s num (.slice a1 n1 c1) (.slice a2 n2 c2) (.slice a3 n3 c3) item kn vn (.slice a4 n4 c4)] w fun e w' => e = .returned (.bool true) ∧ Below w.heap.size w w' := by
  have hr := hu.runes (o.size + 1) (by rw [bytesOf_length]; omega)
  obtain rfl : rs' = ⟨#[]⟩ := bytes_inj (he.trans (by decide))
  have hcall := isU o
  replace hX := Aside0.mk hX; replace hf := Aside0.mk hf; replace hcall := Aside0.mk hcall; replace hr := Aside0.mk hr
  have hb := below_alloc (Below.refl w.heap.size w) (.cells #[.int .i64 kd, .string s, .int .i64 num, .slice a1 n1 c1, .slice a2 n2 c2, .slice a3 n3 c3, .string item, .string kn, .string vn, .slice a4 n4 c4] 28)
  have hk1 := heap_new w (.cells #[.int .i64 kd, .string s, .int .i64 num, .slice a1 n1 c1, .slice a2 n2 c2, .slice a3 n3 c3, .string item, .string kn, .string vn, .slice a4 n4 c4] 28)
  replace hb := Aside0.mk hb; replace hk1 := Aside0.mk hk1
  clear hu he
  unfold ND
  go_enter Tryz.func15, Tryz.ntmps15
  go_wp2_with fail
  generalize w.alloc (.cells #[.int .i64 kd, .string s, .int .i64 num, .slice a1 n1 c1, .slice a2 n2 c2, .slice a3 n3 c3, .string item, .string kn, .string vn, .slice a4 n4 c4] 28) = w1 at *
  obtain ⟨nb, hnb⟩ : ∃ nb, w.heap.size = nb := ⟨_, rfl⟩
  rw [hnb] at hk1 ⊢
  have hc2 := hcall.out w1 ho
  rw [hr.out] at hc2
  refine hc2.mono ?_
  rintro e w2 ⟨rfl, hb2⟩
  have hk2 := Aside0.mk (heap_below hb2 hk1.out)
  have hB2 := below_then hb.out hb.out.size hb2
  clear hb2 hc2 hk1
  have hIn := IsS80.new w w2 o false hB2
  have hB3 := Aside0.mk (below_alloc hB2 (.cells #[.string o, .bool false] 80))
  have hk3 := heap_old hk2.out (.cells #[.string o, .bool false] 80)
  have q0 := cell_at hk3 0
  have q1 := cell_at hk3 1
  have q2 := cell_at hk3 2
  have q3 := cell_at hk3 3
  have q4 := cell_at hk3 4
  have q5 := cell_at hk3 5
  have q6 := cell_at hk3 6
  have q7 := cell_at hk3 7
  have q8 := cell_at hk3 8
  have q9 := cell_at hk3 9
  simp at q0 q1 q2 q3 q4 q5 q6 q7 q8 q9
  replace hk3 := Aside0.mk hk3
  replace hIn := Aside0.mk hIn
  clear hk2 hB2
  go_wp2_with fail
  generalize w2.alloc (.cells #[.string o, .bool false] 80) = w3 at *
  obtain ⟨g, hg⟩ : ∃ g, w2.heap.size = g := ⟨_, rfl⟩
  rw [hg] at hIn ⊢
  have hv := valT kd s num item kn vn a1 a2 a3 a4 n1 n2 n3 n4 c1 c2 c3 c4 w w3 hkd hX.out hIn.out hB3.out hf.out
  unfold ND at hv
  refine hv.mono ?_
  rintro e w4 ⟨rfl, hI4, hB4, _⟩
  clear hv
  replace hI4 := Aside0.mk hI4; replace hB4 := Aside0.mk hB4
  clear q0 q1 q2 q3 q4 q5 q6 q7 q8 q9
  go_wp2_with fail
  refine (spec_reader_space.calls 1 g ⟨#[]⟩ false ⟨#[]⟩ false w w4 hI4.out hB4.out (space_nil 0 ⟨#[]⟩ (by decide))).mono ?_
  rintro e w5 ⟨rfl, hI5, hB5, _⟩
  have c0 := cellS80_0 hI5.1; have c1 := cellS80_1 hI5.1
  replace hI5 := Aside0.mk hI5; replace hB5 := Aside0.mk hB5
  go_wp2
  go_ret
  exact ⟨rfl, by rw [← hnb] at *; exact hB5.out⟩
end H
end Go.Proofs.YtkihaebaccdjdaaGreatDoor
