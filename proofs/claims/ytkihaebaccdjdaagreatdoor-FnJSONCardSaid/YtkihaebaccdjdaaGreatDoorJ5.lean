import Derived.Test.YtkihaebaccdjdaaGreatDoorJ4
import Derived.WideMake
import Derived.MapKept
import Derived.ChangeMaps5
import Derived.Maps.RangeRun
import Derived.Deep.RegionHeld3
set_option linter.unusedVariables false
set_option linter.unusedSimpArgs false
namespace Go.Proofs.YtkihaebaccdjdaaGreatDoor
open Go.RowKit Go.Proofs.YtkihaebaccdjdaaGreatDoorW.PrintWords Go.Proofs.YtkihaebaccdjdaaGreatDoorW.PrintLast Go.Proofs.YtkihaebaccdjdaaGreatDoorW.PrintMore
open Go.ChangeMaps (setBlock)
namespace H
/-! ### awsquery: values, objects; url.Values with one entry -/
theorem fr_setBlock {S : Nat → Prop} (w : World) (m : Nat) (o : Obj) (hm : S m ∨ w.heap.size ≤ m) : Fr S w (setBlock w m o) :=
 ⟨rfl, rfl, rfl, by simp [setBlock], fun k hk hn => by
  have : m ≠ k := by rintro rfl; rcases hm with h | h; exact hn h; omega
  show (w.heap.setIfInBounds m o)[k]? = _
  simp [this]⟩
theorem at_setBlock {w : World} {m : Nat} {o : Obj} (hm : w.heap[m]? = some o) (o' : Obj) : (setBlock w m o').heap[m]? = some o' := by
 have := lt_of hm
 show (w.heap.setIfInBounds m o')[m]? = _
 simp [this]
/-- The map at m has one entry: a key, a row of one text. -/
structure M1 (m r : Nat) (key val : ByteArray) (w : World) : Prop where
 obj : w.heap[m]? = some (.map #[⟨.string key, .slice (some ⟨r, 0, none⟩) 1 1, 0⟩] 1)
 row : w.heap[r]? = some (.cells #[.string val] 9 (0, 0))
theorem M1.fr {S : Nat → Prop} {m r : Nat} {key val : ByteArray} {w w' : World} (h : M1 m r key val w) (hf : Fr S w w') (h1 : ¬ S m) (h2 : ¬ S r) : M1 m r key val w' := ⟨hf.heap h.obj h1, hf.heap h.row h2⟩
set_option maxRecDepth 100000 in
theorem q130 (om : Option Nat) (key : ByteArray) (ap : Bool) (w : World) : Calls Tryz.prog 130 #[.map om, .string key, .bool ap] w fun e w' => e = .returned (.agg #[.map om, .string key, .bool ap]) ∧ Below w.heap.size w w' := by
 go_enter Tryz.func130, Tryz.ntmps130
 go_wp2
 (try simp only [Exit.inBlock, Exit.then])
 refine bodyPost_ret (v := .agg #[.map om, .string key, .bool ap]) ?_ rfl ⟨rfl, ?_⟩
 ·simp only [results]; go_simp
 ·exact below_alloc (Below.refl _ _) _
/-- A value of the query encoder. -/
def QV (m : Nat) (key : ByteArray) (fl : Bool) (om : Option Nat) : Value := .agg #[.map (some m), .string key, .bool fl, .map om, .string key, .bool false]

set_option maxHeartbeats 2000000 in
set_option maxRecDepth 100000 in
theorem q140 (m : Nat) (key : ByteArray) (fl : Bool) (w : World) : Calls Tryz.prog 140 #[.map (some m), .string key, .bool fl] w fun e w' => e = .returned (.agg #[.map (some m), .string key, .bool fl, .map (some m), .string key, .bool false]) ∧ Below w.heap.size w w' := by
 have hb1 := below_alloc (Below.refl w.heap.size w) (.cells #[.map none, .string ⟨#[]⟩, .bool false, .map none, .string ⟨#[]⟩, .bool false] 65)
 have hg1 := heap_new w (.cells #[.map none, .string ⟨#[]⟩, .bool false, .map none, .string ⟨#[]⟩, .bool false] 65)
 replace hb1 := Aside0.mk hb1; replace hg1 := Aside0.mk hg1
 go_enter Tryz.func140, Tryz.ntmps140
 go_wp2_with fail
 generalize w.alloc (.cells #[.map none, .string ⟨#[]⟩, .bool false, .map none, .string ⟨#[]⟩, .bool false] 65) = w1 at *
 obtain ⟨g, hg⟩ : ∃ g, w.heap.size = g := ⟨_, rfl⟩
 rw [hg] at hg1 hb1 ⊢
 refine (q130 (some m) key false w1).mono ?_
 rintro e w2 ⟨rfl, hb⟩
 have hg2 := heap_below hb hg1.out
 have hb2 := Aside0.mk (below_then hb1.out (by have := hb1.out.size; omega) hb)
 have c0 := cell_at hg2 0
 have c1 := cell_at hg2 1
 have c2 := cell_at hg2 2
 have c3 := cell_at hg2 3
 have c4 := cell_at hg2 4
 have c5 := cell_at hg2 5
 have f0 := free_of hg2 0
 have f1 := free_of hg2 1
 have f2 := free_of hg2 2
 have f3 := free_of hg2 3
 have f4 := free_of hg2 4
 have f5 := free_of hg2 5
 simp at c0 c1 c2 c3 c4 c5
 replace hg2 := Aside0.mk hg2
 clear hb hb1 hg1
 go_wp2
 refine bodyPost_ret (v := .agg #[.map (some m), .string key, .bool fl, .map (some m), .string key, .bool false]) ?_ rfl ⟨rfl, ?_⟩
 ·simp only [results]; go_simp
 ·rw [hg]; exact ((((((hb2.out.setCell (p := ⟨g, 0, none⟩) (Nat.le_refl _) (.map (some m))).setCell (p := ⟨g, 1, none⟩) (Nat.le_refl _) (.string key)).setCell (p := ⟨g, 2, none⟩) (Nat.le_refl _) (.bool fl)).setCell (p := ⟨g, 3, none⟩) (Nat.le_refl _) (.map (some m))).setCell (p := ⟨g, 4, none⟩) (Nat.le_refl _) (.string key)).setCell (p := ⟨g, 5, none⟩) (Nat.le_refl _) (.bool false))

set_option maxHeartbeats 2000000 in
set_option maxRecDepth 100000 in
theorem q61 (m : Nat) (w : World) : Calls Tryz.prog 61 #[.map (some m)] w fun e w' => e = .returned (.agg #[.map (some m), .string ⟨#[]⟩, .bool false, .map none, .string ⟨#[]⟩, .bool false]) ∧ Below w.heap.size w w' := by
 have hb1 := below_alloc (Below.refl w.heap.size w) (.cells #[.map none, .string ⟨#[]⟩, .bool false, .map none, .string ⟨#[]⟩, .bool false] 65)
 have hg1 := heap_new w (.cells #[.map none, .string ⟨#[]⟩, .bool false, .map none, .string ⟨#[]⟩, .bool false] 65)
 replace hb1 := Aside0.mk hb1; replace hg1 := Aside0.mk hg1
 go_enter Tryz.func61, Tryz.ntmps61
 go_wp2_with fail
 generalize w.alloc (.cells #[.map none, .string ⟨#[]⟩, .bool false, .map none, .string ⟨#[]⟩, .bool false] 65) = w1 at *
 obtain ⟨g, hg⟩ : ∃ g, w.heap.size = g := ⟨_, rfl⟩
 rw [hg] at hg1 hb1 ⊢
 refine (q130 none ⟨#[]⟩ false w1).mono ?_
 rintro e w2 ⟨rfl, hb⟩
 have hg2 := heap_below hb hg1.out
 have hb2 := Aside0.mk (below_then hb1.out (by have := hb1.out.size; omega) hb)
 have c0 := cell_at hg2 0
 have c1 := cell_at hg2 1
 have c2 := cell_at hg2 2
 have c3 := cell_at hg2 3
 have c4 := cell_at hg2 4
 have c5 := cell_at hg2 5
 have f0 := free_of hg2 0
 have f1 := free_of hg2 1
 have f2 := free_of hg2 2
 have f3 := free_of hg2 3
 have f4 := free_of hg2 4
 have f5 := free_of hg2 5
 simp at c0 c1 c2 c3 c4 c5
 replace hg2 := Aside0.mk hg2
 clear hb hb1 hg1
 go_wp2
 refine bodyPost_ret (v := .agg #[.map (some m), .string ⟨#[]⟩, .bool false, .map none, .string ⟨#[]⟩, .bool false]) ?_ rfl ⟨rfl, ?_⟩
 ·simp only [results]; go_simp
 ·rw [hg]; exact ((((((hb2.out.setCell (p := ⟨g, 0, none⟩) (Nat.le_refl _) (.map (some m))).setCell (p := ⟨g, 1, none⟩) (Nat.le_refl _) (.string ⟨#[]⟩)).setCell (p := ⟨g, 2, none⟩) (Nat.le_refl _) (.bool false)).setCell (p := ⟨g, 3, none⟩) (Nat.le_refl _) (.map none)).setCell (p := ⟨g, 4, none⟩) (Nat.le_refl _) (.string ⟨#[]⟩)).setCell (p := ⟨g, 5, none⟩) (Nat.le_refl _) (.bool false))

set_option maxRecDepth 100000 in
theorem q137 (m : Nat) (key : ByteArray) (w : World) : Calls Tryz.prog 137 #[.map (some m), .string key] w fun e w' => ∃ ob, e = .returned (.pointer (some ⟨ob, 0, none⟩)) ∧ w.heap.size ≤ ob ∧ w'.heap[ob]? = some (.cells #[.map (some m), .string key] 225 (0, 0)) ∧ Below w.heap.size w w' := by
 go_enter Tryz.func137, Tryz.ntmps137
 go_wp2
 go_ret
 exact ⟨_, rfl, Nat.le_refl _, heap_new _ _, below_alloc (Below.refl _ _) _⟩
set_option maxRecDepth 100000 in
theorem q68 (m : Nat) (key : ByteArray) (fl : Bool) (om : Option Nat) (w : World) : Calls Tryz.prog 68 #[QV m key fl om] w fun e w' => ∃ ob, e = .returned (.pointer (some ⟨ob, 0, none⟩)) ∧ w.heap.size ≤ ob ∧ w'.heap[ob]? = some (.cells #[.map (some m), .string key] 225 (0, 0)) ∧ Below w.heap.size w w' := by
 have hb1 := below_alloc (Below.refl w.heap.size w) (.cells #[.map (some m), .string key, .bool fl, .map om, .string key, .bool false] 65)
 replace hb1 := Aside0.mk hb1
 unfold QV
 go_enter Tryz.func68, Tryz.ntmps68
 go_wp2_with fail
 generalize w.alloc (.cells #[.map (some m), .string key, .bool fl, .map om, .string key, .bool false] 65) = w1 at *
 refine (q137 m key w1).mono ?_
 rintro e w2 ⟨ob, rfl, h1, h2, h3⟩
 go_wp2
 go_ret
 exact ⟨_, rfl, by have := hb1.out.size; omega, h2, below_then hb1.out hb1.out.size h3⟩

set_option maxHeartbeats 2000000 in
set_option maxRecDepth 100000 in
theorem q138 (m ob : Nat) (name : ByteArray) (fl : Bool) (w : World) (ho : w.heap[ob]? = some (.cells #[.map (some m), .string ⟨#[]⟩] 225 (0, 0))) : Calls Tryz.prog 138 #[.pointer (some ⟨ob, 0, none⟩), .string name, .bool fl] w fun e w' => e = .returned (.agg #[.map (some m), .string name, .bool fl, .map (some m), .string name, .bool false]) ∧ Below w.heap.size w w' := by
 have hb1 := below_alloc (Below.refl w.heap.size w) (.cells #[.map none, .string ⟨#[]⟩, .bool false, .map none, .string ⟨#[]⟩, .bool false] 65)
 have hg1 := heap_new w (.cells #[.map none, .string ⟨#[]⟩, .bool false, .map none, .string ⟨#[]⟩, .bool false] 65)
 have ho1 := heap_old ho (.cells #[.map none, .string ⟨#[]⟩, .bool false, .map none, .string ⟨#[]⟩, .bool false] 65)
 have d0 := cell_at ho1 0; have d1 := cell_at ho1 1
 simp at d0 d1
 replace ho1 := Aside0.mk ho1
 replace hb1 := Aside0.mk hb1; replace hg1 := Aside0.mk hg1
 clear ho
 go_enter Tryz.func138, Tryz.ntmps138
 go_wp2_with fail
 generalize w.alloc (.cells #[.map none, .string ⟨#[]⟩, .bool false, .map none, .string ⟨#[]⟩, .bool false] 65) = w1 at *
 obtain ⟨g, hg⟩ : ∃ g, w.heap.size = g := ⟨_, rfl⟩
 rw [hg] at hg1 hb1 ⊢
 refine (q140 m name fl w1).mono ?_
 rintro e w2 ⟨rfl, hb⟩
 have hg2 := heap_below hb hg1.out
 have hb2 := Aside0.mk (below_then hb1.out (by have := hb1.out.size; omega) hb)
 have c0 := cell_at hg2 0
 have c1 := cell_at hg2 1
 have c2 := cell_at hg2 2
 have c3 := cell_at hg2 3
 have c4 := cell_at hg2 4
 have c5 := cell_at hg2 5
 have f0 := free_of hg2 0
 have f1 := free_of hg2 1
 have f2 := free_of hg2 2
 have f3 := free_of hg2 3
 have f4 := free_of hg2 4
 have f5 := free_of hg2 5
 simp at c0 c1 c2 c3 c4 c5
 replace hg2 := Aside0.mk hg2
 clear hb hb1 hg1 ho1 d0 d1
 go_wp2
 refine bodyPost_ret (v := .agg #[.map (some m), .string name, .bool fl, .map (some m), .string name, .bool false]) ?_ rfl ⟨rfl, ?_⟩
 ·simp only [results]; go_simp
 ·rw [hg]; exact ((((((hb2.out.setCell (p := ⟨g, 0, none⟩) (Nat.le_refl _) (.map (some m))).setCell (p := ⟨g, 1, none⟩) (Nat.le_refl _) (.string name)).setCell (p := ⟨g, 2, none⟩) (Nat.le_refl _) (.bool fl)).setCell (p := ⟨g, 3, none⟩) (Nat.le_refl _) (.map (some m))).setCell (p := ⟨g, 4, none⟩) (Nat.le_refl _) (.string name)).setCell (p := ⟨g, 5, none⟩) (Nat.le_refl _) (.bool false))

set_option maxHeartbeats 2000000 in
set_option maxRecDepth 100000 in
theorem q71 (m ob : Nat) (name : ByteArray) (w : World) (ho : w.heap[ob]? = some (.cells #[.map (some m), .string ⟨#[]⟩] 225 (0, 0))) : Calls Tryz.prog 71 #[.pointer (some ⟨ob, 0, none⟩), .string name] w fun e w' => e = .returned (.agg #[.map (some m), .string name, .bool false, .map (some m), .string name, .bool false]) ∧ Below w.heap.size w w' := by
 have hb1 := below_alloc (Below.refl w.heap.size w) (.cells #[.map none, .string ⟨#[]⟩, .bool false, .map none, .string ⟨#[]⟩, .bool false] 65)
 have hg1 := heap_new w (.cells #[.map none, .string ⟨#[]⟩, .bool false, .map none, .string ⟨#[]⟩, .bool false] 65)
 have ho1 := heap_old ho (.cells #[.map none, .string ⟨#[]⟩, .bool false, .map none, .string ⟨#[]⟩, .bool false] 65)
 have d0 := cell_at ho1 0; have d1 := cell_at ho1 1
 simp at d0 d1
 replace ho1 := Aside0.mk ho1
 replace hb1 := Aside0.mk hb1; replace hg1 := Aside0.mk hg1
 clear ho
 go_enter Tryz.func71, Tryz.ntmps71
 go_wp2_with fail
 generalize w.alloc (.cells #[.map none, .string ⟨#[]⟩, .bool false, .map none, .string ⟨#[]⟩, .bool false] 65) = w1 at *
 obtain ⟨g, hg⟩ : ∃ g, w.heap.size = g := ⟨_, rfl⟩
 rw [hg] at hg1 hb1 ⊢
 refine (q138 m ob name false w1 ho1.out).mono ?_
 rintro e w2 ⟨rfl, hb⟩
 have hg2 := heap_below hb hg1.out
 have hb2 := Aside0.mk (below_then hb1.out (by have := hb1.out.size; omega) hb)
 have c0 := cell_at hg2 0
 have c1 := cell_at hg2 1
 have c2 := cell_at hg2 2
 have c3 := cell_at hg2 3
 have c4 := cell_at hg2 4
 have c5 := cell_at hg2 5
 have f0 := free_of hg2 0
 have f1 := free_of hg2 1
 have f2 := free_of hg2 2
 have f3 := free_of hg2 3
 have f4 := free_of hg2 4
 have f5 := free_of hg2 5
 simp at c0 c1 c2 c3 c4 c5
 replace hg2 := Aside0.mk hg2
 clear hb hb1 hg1 ho1 d0 d1
 go_wp2
 refine bodyPost_ret (v := .agg #[.map (some m), .string name, .bool false, .map (some m), .string name, .bool false]) ?_ rfl ⟨rfl, ?_⟩
 ·simp only [results]; go_simp
 ·rw [hg]; exact ((((((hb2.out.setCell (p := ⟨g, 0, none⟩) (Nat.le_refl _) (.map (some m))).setCell (p := ⟨g, 1, none⟩) (Nat.le_refl _) (.string name)).setCell (p := ⟨g, 2, none⟩) (Nat.le_refl _) (.bool false)).setCell (p := ⟨g, 3, none⟩) (Nat.le_refl _) (.map (some m))).setCell (p := ⟨g, 4, none⟩) (Nat.le_refl _) (.string name)).setCell (p := ⟨g, 5, none⟩) (Nat.le_refl _) (.bool false))

set_option maxHeartbeats 2000000 in
set_option maxRecDepth 100000 in
theorem q221 (m : Nat) (key val : ByteArray) (w : World) (hm : w.heap[m]? = some (.map #[] 0)) : Calls Tryz.prog 221 #[.map (some m), .string key, .string val] w fun e w' => e = .returned (.tuple #[]) ∧ (∃ r, w.heap.size ≤ r ∧ M1 m r key val w') ∧ Fr (fun k => k = m) w w' := by
 have hm1 := heap_old hm (.cells #[.string val] 9)
 have hrow := heap_new w (.cells #[.string val] 9)
 have hup := run_mapUpdate_first (P := Tryz.prog) (w := w.alloc (.cells #[.string val] 9)) 59 9 23 m 0 key (.slice (some ⟨w.heap.size, 0, none⟩) 1 1) Tryz.underlying59 Tryz.underlying9 hm1
 have hlt := lt_of hm
 replace hm1 := Aside0.mk hm1; replace hrow := Aside0.mk hrow
 clear hm
 go_enter Tryz.func221, Tryz.ntmps221
 go_wp2
 refine bodyPost_end (results_none rfl _ _ _) rfl ?_
 have hF := fr_setBlock (S := fun k => k = m) (w.alloc (.cells #[.string val] 9)) m (.map #[⟨.string key, .slice (some ⟨w.heap.size, 0, none⟩) 1 1, 0⟩] 1) (.inl rfl)
 refine ⟨rfl, ⟨w.heap.size, Nat.le_refl _, ⟨at_setBlock hm1.out _, hF.heap hrow.out (by omega)⟩⟩, ?_⟩
 exact (Fr.of_below (S := fun k => k = m) (below_alloc (Below.refl _ _) _)).trans hF (fun _ _ h => h)

set_option maxHeartbeats 2000000 in
set_option maxRecDepth 100000 in
theorem q175 (m : Nat) (key val : ByteArray) (fl : Bool) (w : World) (hm : w.heap[m]? = some (.map #[] 0)) : Calls Tryz.prog 175 #[.agg #[.map (some m), .string key, .bool false], .string val] w fun e w' => e = .returned (.tuple #[]) ∧ (∃ r, w.heap.size ≤ r ∧ M1 m r key val w') ∧ Fr (fun k => k = m) w w' := by
 have hm1 := heap_old hm (.cells #[.map (some m), .string key, .bool false] 63)
 have hb := below_alloc (Below.refl w.heap.size w) (.cells #[.map (some m), .string key, .bool false] 63)
 replace hm1 := Aside0.mk hm1; replace hb := Aside0.mk hb
 clear hm
 skip
 go_enter Tryz.func175, Tryz.ntmps175
 go_wp2_with fail
 generalize w.alloc (.cells #[.map (some m), .string key, .bool false] 63) = w1 at *
 refine (q221 m key val w1 hm1.out).mono ?_
 rintro e w2 ⟨rfl, ⟨r, hr, hM⟩, hF⟩
 go_wp2
 refine bodyPost_end (results_none rfl _ _ _) rfl ?_
 exact ⟨rfl, ⟨r, by have := hb.out.size; omega, hM⟩, (Fr.of_below (S := fun k => k = m) hb.out).trans hF (fun _ _ h => h)⟩

set_option maxHeartbeats 2000000 in
set_option maxRecDepth 100000 in
theorem q143 (m : Nat) (key val : ByteArray) (fl : Bool) (w : World) (hm : w.heap[m]? = some (.map #[] 0)) : Calls Tryz.prog 143 #[.agg #[.map (some m), .string key, .bool false], .string val] w fun e w' => e = .returned (.tuple #[]) ∧ (∃ r, w.heap.size ≤ r ∧ M1 m r key val w') ∧ Fr (fun k => k = m) w w' := by
 have hm1 := heap_old hm (.cells #[.map (some m), .string key, .bool false] 63)
 have hb := below_alloc (Below.refl w.heap.size w) (.cells #[.map (some m), .string key, .bool false] 63)
 replace hm1 := Aside0.mk hm1; replace hb := Aside0.mk hb
 clear hm
 skip
 go_enter Tryz.func143, Tryz.ntmps143
 go_wp2_with fail
 generalize w.alloc (.cells #[.map (some m), .string key, .bool false] 63) = w1 at *
 refine (q175 m key val fl w1 hm1.out).mono ?_
 rintro e w2 ⟨rfl, ⟨r, hr, hM⟩, hF⟩
 go_wp2
 refine bodyPost_end (results_none rfl _ _ _) rfl ?_
 exact ⟨rfl, ⟨r, by have := hb.out.size; omega, hM⟩, (Fr.of_below (S := fun k => k = m) hb.out).trans hF (fun _ _ h => h)⟩

set_option maxHeartbeats 2000000 in
set_option maxRecDepth 100000 in
theorem q76 (m : Nat) (key val : ByteArray) (fl : Bool) (w : World) (hm : w.heap[m]? = some (.map #[] 0)) : Calls Tryz.prog 76 #[QV m key fl (some m), .string val] w fun e w' => e = .returned (.tuple #[]) ∧ (∃ r, w.heap.size ≤ r ∧ M1 m r key val w') ∧ Fr (fun k => k = m) w w' := by
 have hm1 := heap_old hm (.cells #[.map (some m), .string key, .bool fl, .map (some m), .string key, .bool false] 65)
 have hb := below_alloc (Below.refl w.heap.size w) (.cells #[.map (some m), .string key, .bool fl, .map (some m), .string key, .bool false] 65)
 replace hm1 := Aside0.mk hm1; replace hb := Aside0.mk hb
 clear hm
 unfold QV
 go_enter Tryz.func76, Tryz.ntmps76
 go_wp2_with fail
 generalize w.alloc (.cells #[.map (some m), .string key, .bool fl, .map (some m), .string key, .bool false] 65) = w1 at *
 refine (q143 m key val fl w1 hm1.out).mono ?_
 rintro e w2 ⟨rfl, ⟨r, hr, hM⟩, hF⟩
 go_wp2
 refine bodyPost_end (results_none rfl _ _ _) rfl ?_
 exact ⟨rfl, ⟨r, by have := hb.out.size; omega, hM⟩, (Fr.of_below (S := fun k => k = m) hb.out).trans hF (fun _ _ h => h)⟩

end H
end Go.Proofs.YtkihaebaccdjdaaGreatDoor
set_option linter.unusedVariables false
set_option linter.unusedSimpArgs false
namespace Go.Proofs.YtkihaebaccdjdaaGreatDoor
open Go.RowKit Go.Proofs.YtkihaebaccdjdaaGreatDoorW.PrintWords Go.Proofs.YtkihaebaccdjdaaGreatDoorW.PrintLast Go.Proofs.YtkihaebaccdjdaaGreatDoorW.PrintMore
namespace H
/-! ### smxml.Buffer -/
set_option maxHeartbeats 400000 in
set_option maxRecDepth 100000 in
theorem xws {B b : Nat} {X : Nat → Prop} {xs : List Int} (s : ByteArray) (w : World) (h : JB 97 B X b xs w) (hl : xs.length + s.size ≤ 140737488355328) :
 Calls Tryz.prog 263 #[.pointer (some ⟨b, 0, none⟩), .string s] w fun e w' => e = .returned (.tuple #[.int .i64 s.size, .nilIface]) ∧ Wrote 97 B X b (xs ++ bytesOf s) w w' := by
 obtain ⟨v, hb, ho, hX⟩ := h.out
 have hc := cell_of hb
 have hlt : b < w.heap.size := lt_of hb
 have hB : B ≤ w.heap.size := by have := h.ge; omega
 have Hb := Aside0.mk hb; clear hb
 have Ho := Aside0.mk ho; clear ho
 have HX := Aside0.mk hX; clear hX
 have HH := Aside0.mk h; clear h
 go_enter Tryz.func263, Tryz.ntmps263
 go_wp2_with (at_builtin; refine app_str B rfl (.tmp 10) (.tmp 11) 22 9 rfl Tryz.underlying22 Tryz.underlying9 inf5 v xs s rfl rfl Ho.out hB (by omega) ?_; intro v1 w1 ho1 hg1 hat1; have hP := HH.out.put_at Hb.out Ho.out HX.out hg1 ho1 hat1; obtain ⟨A1, c1, rfl⟩ := own_slice ho1; have hB1 := (hg1.block b hlt (fun e => own_ne (by decide) Hb.out Ho.out b e.symm rfl)).trans Hb.out; have hc1 := cell_of hB1; have hf1 := free_of hB1 0; have HB1 := Aside0.mk hB1; have HP := Aside0.mk hP; clear hB1 ho1 hg1 hat1 hP)
 go_ret2
 exact ⟨rfl, by simpa using HP.out⟩
set_option maxHeartbeats 400000 in
set_option maxRecDepth 100000 in
theorem xw {B b : Nat} {X : Nat → Prop} {xs : List Int} (A : Option Addr) (n c : Nat) (ys : List Int) (w : World) (h : JB 97 B X b xs w) (hr : ReadsInt w .u8 A n ys) (hl : xs.length + n ≤ 140737488355328) :
 Calls Tryz.prog 261 #[.pointer (some ⟨b, 0, none⟩), .slice A n c] w fun e w' => e = .returned (.tuple #[.int .i64 n, .nilIface]) ∧ Wrote 97 B X b (xs ++ ys) w w' := by
 have Hr := Aside0.mk hr; clear hr
 obtain ⟨v, hb, ho, hX⟩ := h.out
 have hc := cell_of hb
 have hlt : b < w.heap.size := lt_of hb
 have hB : B ≤ w.heap.size := by have := h.ge; omega
 have Hb := Aside0.mk hb; clear hb
 have Ho := Aside0.mk ho; clear ho
 have HX := Aside0.mk hX; clear hX
 have HH := Aside0.mk h; clear h
 go_enter Tryz.func261, Tryz.ntmps261
 go_wp2_with (at_builtin; refine print_append_row (w0 := w) B rfl (.tmp 10) (.tmp 11) 22 5 .u8 1 rfl Tryz.underlying22 inf5 (by omega) v xs ys A n c rfl rfl Ho.out Hr.out (Below.refl _ _) hB (by omega) ?_; intro v1 w1 ho1 hb1 hg1 hat1; have hP := HH.out.put_at Hb.out Ho.out HX.out hg1 ho1 hat1; obtain ⟨A1, c1, rfl⟩ := own_slice ho1; have hB1 := (hg1.block b hlt (fun e => own_ne (by decide) Hb.out Ho.out b e.symm rfl)).trans Hb.out; have hc1 := cell_of hB1; have hf1 := free_of hB1 0; have HB1 := Aside0.mk hB1; have HP := Aside0.mk hP; clear hB1 ho1 hg1 hat1 hP)
 go_ret2
 exact ⟨rfl, by simpa using HP.out⟩
set_option maxHeartbeats 400000 in
set_option maxRecDepth 100000 in
theorem xwr {B b : Nat} {X : Nat → Prop} {xs : List Int} (r : Int) (s : ByteArray) (hcv : ∀ w : World, (convert 21 9 (.int .i32 r)).run Tryz.prog w = .ok (.string s) w) (w : World) (h : JB 97 B X b xs w) (hl : xs.length + s.size ≤ 140737488355328) :
 Calls Tryz.prog 262 #[.pointer (some ⟨b, 0, none⟩), .int .i32 r] w fun e w' => ∃ n, e = .returned (.tuple #[n, .nilIface]) ∧ Wrote 97 B X b (xs ++ bytesOf s) w w' := by
 obtain ⟨v, hb, ho, hX⟩ := h.out
 have hc := cell_of hb
 have hlt : b < w.heap.size := lt_of hb
 have hB : B ≤ w.heap.size := by have := h.ge; omega
 have Hb := Aside0.mk hb; clear hb
 have Ho := Aside0.mk ho; clear ho
 have HX := Aside0.mk hX; clear hX
 have HH := Aside0.mk h; clear h
 go_enter Tryz.func262, Tryz.ntmps262
 obtain ⟨A0, c0, rfl⟩ := own_slice Ho.out
 go_wp2_with (at_builtin; refine app_str B rfl (.tmp 16) (.tmp 18) 22 9 rfl Tryz.underlying22 Tryz.underlying9 inf5 _ xs s rfl rfl Ho.out hB (by omega) ?_; intro v1 w1 ho1 hg1 hat1; have hP := HH.out.put_at Hb.out Ho.out HX.out hg1 ho1 hat1; obtain ⟨A1, c1, rfl⟩ := own_slice ho1; have hB1 := (hg1.block b hlt (fun e => own_ne (by decide) Hb.out Ho.out b e.symm rfl)).trans Hb.out; have hc1 := cell_of hB1; have hf1 := free_of hB1 0; have HB1 := Aside0.mk hB1; have HP := Aside0.mk hP; clear hB1 ho1 hg1 hat1 hP)
 go_ret2
 exact ⟨_, rfl, by simpa using HP.out⟩
set_option maxHeartbeats 400000 in
set_option maxRecDepth 100000 in
theorem xstr {B b : Nat} {X : Nat → Prop} {xs : List Int} (w : World) (h : JB 97 B X b xs w) :
 Calls Tryz.prog 260 #[.pointer (some ⟨b, 0, none⟩)] w fun e w' => e = .returned (.string (strOfNums xs)) ∧ w' = w := by
 obtain ⟨v, hb, ho, _⟩ := h.out
 have hc := cell_of hb
 have hrun := own_string (P := Tryz.prog) Tryz.underlying22 Tryz.underlying5 Tryz.underlying9 ho
 go_enter Tryz.func260, Tryz.ntmps260
 go_wp2
 go_ret
 exact ⟨rfl, rfl⟩
end H
end Go.Proofs.YtkihaebaccdjdaaGreatDoor
set_option linter.unusedVariables false
set_option linter.unusedSimpArgs false
namespace Go.Proofs.YtkihaebaccdjdaaGreatDoor
open Go.RowKit Go.Proofs.YtkihaebaccdjdaaGreatDoorW.PrintWords Go.Proofs.YtkihaebaccdjdaaGreatDoorW.PrintLast Go.Proofs.YtkihaebaccdjdaaGreatDoorW.PrintMore
namespace H
/-! ### smjson.Buffer -/
set_option maxHeartbeats 400000 in
set_option maxRecDepth 100000 in
theorem jwb {B b : Nat} {X : Nat → Prop} {xs : List Int} (c : Int) (w : World) (h : JB 150 B X b xs w) (hl : xs.length + 1 ≤ 140737488355328) :
 Calls Tryz.prog 197 #[.pointer (some ⟨b, 0, none⟩), .int .u8 c] w fun e w' => e = .returned .nilIface ∧ Wrote 150 B X b (xs ++ [c]) w w' := by
 obtain ⟨v, hb, ho, hX⟩ := h.out
 have hc := cell_of hb
 have hlt : b < w.heap.size := lt_of hb
 have hB : B ≤ w.heap.size := by have := h.ge; omega
 have Hb := Aside0.mk hb; clear hb
 have Ho := Aside0.mk ho; clear ho
 have HX := Aside0.mk hX; clear hX
 have HH := Aside0.mk h; clear h
 go_enter Tryz.func197, Tryz.ntmps197
 go_wp2_with (at_builtin; refine print_append_num (w0 := w) B rfl (.tmp 9) (.tmp 11) 22 5 .u8 1 rfl Tryz.underlying22 inf5 (by omega) v xs c rfl rfl Ho.out (Below.refl _ _) hB (by omega) ?_; intro v1 w1 ho1 hb1 hg1 hat1; have hP := HH.out.put_at Hb.out Ho.out HX.out hg1 ho1 hat1; obtain ⟨A1, c1, rfl⟩ := own_slice ho1; have hB1 := (hg1.block b hlt (fun e => own_ne (by decide) Hb.out Ho.out b e.symm rfl)).trans Hb.out; have hc1 := cell_of hB1; have hf1 := free_of hB1 0; have HB1 := Aside0.mk hB1; have HP := Aside0.mk hP; clear hB1 ho1 hg1 hat1 hP)
 go_ret
 exact ⟨rfl, by simpa using HP.out⟩
set_option maxHeartbeats 400000 in
set_option maxRecDepth 100000 in
theorem jws {B b : Nat} {X : Nat → Prop} {xs : List Int} (s : ByteArray) (w : World) (h : JB 150 B X b xs w) (hl : xs.length + s.size ≤ 140737488355328) :
 Calls Tryz.prog 155 #[.pointer (some ⟨b, 0, none⟩), .string s] w fun e w' => e = .returned (.tuple #[.int .i64 s.size, .nilIface]) ∧ Wrote 150 B X b (xs ++ bytesOf s) w w' := by
 obtain ⟨v, hb, ho, hX⟩ := h.out
 have hc := cell_of hb
 have hlt : b < w.heap.size := lt_of hb
 have hB : B ≤ w.heap.size := by have := h.ge; omega
 have Hb := Aside0.mk hb; clear hb
 have Ho := Aside0.mk ho; clear ho
 have HX := Aside0.mk hX; clear hX
 have HH := Aside0.mk h; clear h
 go_enter Tryz.func155, Tryz.ntmps155
 go_wp2_with (at_builtin; refine app_str B rfl (.tmp 10) (.tmp 11) 22 9 rfl Tryz.underlying22 Tryz.underlying9 inf5 v xs s rfl rfl Ho.out hB (by omega) ?_; intro v1 w1 ho1 hg1 hat1; have hP := HH.out.put_at Hb.out Ho.out HX.out hg1 ho1 hat1; obtain ⟨A1, c1, rfl⟩ := own_slice ho1; have hB1 := (hg1.block b hlt (fun e => own_ne (by decide) Hb.out Ho.out b e.symm rfl)).trans Hb.out; have hc1 := cell_of hB1; have hf1 := free_of hB1 0; have HB1 := Aside0.mk hB1; have HP := Aside0.mk hP; clear hB1 ho1 hg1 hat1 hP)
 go_ret2
 exact ⟨rfl, by simpa using HP.out⟩
set_option maxHeartbeats 400000 in
set_option maxRecDepth 100000 in
theorem jw {B b : Nat} {X : Nat → Prop} {xs : List Int} (A : Option Addr) (n c : Nat) (ys : List Int) (w : World) (h : JB 150 B X b xs w) (hr : ReadsInt w .u8 A n ys) (hl : xs.length + n ≤ 140737488355328) :
 Calls Tryz.prog 152 #[.pointer (some ⟨b, 0, none⟩), .slice A n c] w fun e w' => e = .returned (.tuple #[.int .i64 n, .nilIface]) ∧ Wrote 150 B X b (xs ++ ys) w w' := by
 have Hr := Aside0.mk hr; clear hr
 obtain ⟨v, hb, ho, hX⟩ := h.out
 have hc := cell_of hb
 have hlt : b < w.heap.size := lt_of hb
 have hB : B ≤ w.heap.size := by have := h.ge; omega
 have Hb := Aside0.mk hb; clear hb
 have Ho := Aside0.mk ho; clear ho
 have HX := Aside0.mk hX; clear hX
 have HH := Aside0.mk h; clear h
 go_enter Tryz.func152, Tryz.ntmps152
 go_wp2_with (at_builtin; refine print_append_row (w0 := w) B rfl (.tmp 10) (.tmp 11) 22 5 .u8 1 rfl Tryz.underlying22 inf5 (by omega) v xs ys A n c rfl rfl Ho.out Hr.out (Below.refl _ _) hB (by omega) ?_; intro v1 w1 ho1 hb1 hg1 hat1; have hP := HH.out.put_at Hb.out Ho.out HX.out hg1 ho1 hat1; obtain ⟨A1, c1, rfl⟩ := own_slice ho1; have hB1 := (hg1.block b hlt (fun e => own_ne (by decide) Hb.out Ho.out b e.symm rfl)).trans Hb.out; have hc1 := cell_of hB1; have hf1 := free_of hB1 0; have HB1 := Aside0.mk hB1; have HP := Aside0.mk hP; clear hB1 ho1 hg1 hat1 hP)
 go_ret2
 exact ⟨rfl, by simpa using HP.out⟩
set_option maxHeartbeats 400000 in
set_option maxRecDepth 100000 in
theorem jwr {B b : Nat} {X : Nat → Prop} {xs : List Int} (r : Int) (s : ByteArray) (hcv : ∀ w : World, (convert 21 9 (.int .i32 r)).run Tryz.prog w = .ok (.string s) w) (w : World) (h : JB 150 B X b xs w) (hl : xs.length + s.size ≤ 140737488355328) :
 Calls Tryz.prog 158 #[.pointer (some ⟨b, 0, none⟩), .int .i32 r] w fun e w' => ∃ n, e = .returned (.tuple #[n, .nilIface]) ∧ Wrote 150 B X b (xs ++ bytesOf s) w w' := by
 obtain ⟨v, hb, ho, hX⟩ := h.out
 have hc := cell_of hb
 have hlt : b < w.heap.size := lt_of hb
 have hB : B ≤ w.heap.size := by have := h.ge; omega
 have Hb := Aside0.mk hb; clear hb
 have Ho := Aside0.mk ho; clear ho
 have HX := Aside0.mk hX; clear hX
 have HH := Aside0.mk h; clear h
 go_enter Tryz.func158, Tryz.ntmps158
 obtain ⟨A0, c0, rfl⟩ := own_slice Ho.out
 go_wp2_with (at_builtin; refine app_str B rfl (.tmp 16) (.tmp 18) 22 9 rfl Tryz.underlying22 Tryz.underlying9 inf5 _ xs s rfl rfl Ho.out hB (by omega) ?_; intro v1 w1 ho1 hg1 hat1; have hP := HH.out.put_at Hb.out Ho.out HX.out hg1 ho1 hat1; obtain ⟨A1, c1, rfl⟩ := own_slice ho1; have hB1 := (hg1.block b hlt (fun e => own_ne (by decide) Hb.out Ho.out b e.symm rfl)).trans Hb.out; have hc1 := cell_of hB1; have hf1 := free_of hB1 0; have HB1 := Aside0.mk hB1; have HP := Aside0.mk hP; clear hB1 ho1 hg1 hat1 hP)
 go_ret2
 exact ⟨_, rfl, by simpa using HP.out⟩
set_option maxHeartbeats 400000 in
set_option maxRecDepth 100000 in
theorem jstr {B b : Nat} {X : Nat → Prop} {xs : List Int} (w : World) (h : JB 150 B X b xs w) :
 Calls Tryz.prog 102 #[.pointer (some ⟨b, 0, none⟩)] w fun e w' => e = .returned (.string (strOfNums xs)) ∧ w' = w := by
 obtain ⟨v, hb, ho, _⟩ := h.out
 have hc := cell_of hb
 have hrun := own_string (P := Tryz.prog) Tryz.underlying22 Tryz.underlying5 Tryz.underlying9 ho
 go_enter Tryz.func102, Tryz.ntmps102
 go_wp2
 go_ret
 exact ⟨rfl, rfl⟩
end H
end Go.Proofs.YtkihaebaccdjdaaGreatDoor
