import Derived.Test.YtkihaebaccdjdaaGreatDoorX7
import Derived.Test.YtkihaebaccdjdaaGreatDoorX20
set_option linter.unusedVariables false
set_option linter.unusedSimpArgs false
namespace Go.Proofs.YtkihaebaccdjdaaGreatDoor
open Go.RowKit Go.Proofs.YtkihaebaccdjdaaGreatDoorW.PrintWords Go.Proofs.YtkihaebaccdjdaaGreatDoorW.PrintLast Go.Proofs.YtkihaebaccdjdaaGreatDoorW.PrintMore
open Go.ChangeMaps (setBlock)
namespace H
/-! ### impl.inForm: a text, an object with one kid -/
/-- What is left of a call that puts one entry into an empty map. -/
def Put1 (m : Nat) (key val : ByteArray) (w : World) (e : Ending) (w' : World) : Prop := e = .returned (.tuple #[]) ∧ (∃ r, w.heap.size ≤ r ∧ M1 m r key val w') ∧ Fr (fun k => k = m) w w'
theorem Put1.from {m : Nat} {key val : ByteArray} {w w1 w' : World} {e : Ending} (hb : Fr (fun k => k = m) w w1) (h : Put1 m key val w1 e w') : Put1 m key val w e w' := by
 obtain ⟨h1, ⟨r, h2, h3⟩, h4⟩ := h
 exact ⟨h1, ⟨r, Nat.le_trans hb.size h2, h3⟩, hb.trans h4 (fun _ _ h => h)⟩

set_option maxHeartbeats 4000000 in
set_option maxRecDepth 100000 in
theorem inf0 (m : Nat) (key : ByteArray) (fl : Bool) (s : ByteArray) (num : Int) (item kn vn : ByteArray) (a1 a2 a3 a4 : Option Addr) (n1 n2 n3 n4 c1 c2 c3 c4 : Nat) (w : World) (hm : w.heap[m]? = some (.map #[] 0)) :
 Calls Tryz.prog 28 #[QV m key fl (some m), ND 0 s num (.slice a1 n1 c1) (.slice a2 n2 c2) (.slice a3 n3 c3) item kn vn (.slice a4 n4 c4)] w fun e w' => Put1 m key s w e w' := by
 have hm1 := heap_old (heap_old hm (.cells #[.map (some m), .string key, .bool fl, .map (some m), .string key, .bool false] 65)) (.cells #[.int .i64 0, .string s, .int .i64 num, .slice a1 n1 c1, .slice a2 n2 c2, .slice a3 n3 c3, .string item, .string kn, .string vn, .slice a4 n4 c4] 28)
 have hb := below_alloc (below_alloc (Below.refl w.heap.size w) (.cells #[.map (some m), .string key, .bool fl, .map (some m), .string key, .bool false] 65)) (.cells #[.int .i64 0, .string s, .int .i64 num, .slice a1 n1 c1, .slice a2 n2 c2, .slice a3 n3 c3, .string item, .string kn, .string vn, .slice a4 n4 c4] 28)
 replace hm1 := Aside0.mk hm1; replace hb := Aside0.mk hb
 clear hm
 unfold QV ND
 go_enter Tryz.func28, Tryz.ntmps28
 go_wp2_with fail
 generalize (w.alloc (.cells #[.map (some m), .string key, .bool fl, .map (some m), .string key, .bool false] 65)).alloc (.cells #[.int .i64 0, .string s, .int .i64 num, .slice a1 n1 c1, .slice a2 n2 c2, .slice a3 n3 c3, .string item, .string kn, .string vn, .slice a4 n4 c4] 28) = w1 at *
 refine (q76 m key s fl w1 hm1.out).mono ?_
 rintro e w2 ⟨rfl, h1, h2⟩
 go_wp2
 refine bodyPost_end (results_none rfl _ _ _) rfl ?_
 exact Put1.from (Fr.of_below hb.out) ⟨rfl, h1, h2⟩

set_option maxHeartbeats 8000000 in
set_option maxRecDepth 100000 in
theorem inf1 {val : ByteArray} (m : Nat) (t : ByteArray) (num : Int) (nm item kn vn : ByteArray) (na ka fa : Nat) (a4 : Option Addr) (n4 c1 c2 c3 c4 : Nat)
 (kd : Int) (s0 : ByteArray) (num0 : Int) (i0 k0 v0 : ByteArray) (d1 d2 d3 d4 : Option Addr) (r1 r2 r3 r4 u1 u2 u3 u4 : Nat) (z1 z2 z3 : Nat × Nat) (w : World) (hm : w.heap[m]? = some (.map #[] 0))
 (hna : w.heap[na]? = some (.cells #[.string nm] 9 z1)) (hka : w.heap[ka]? = some (.cells (NDc kd s0 num0 (.slice d1 r1 u1) (.slice d2 r2 u2) (.slice d3 r3 u3) i0 k0 v0 (.slice d4 r4 u4)) 28 z2)) (hfa : w.heap[fa]? = some (.cells #[.bool false] 4 z3))
 (hkid : ∀ w1 : World, w1.heap[m]? = some (.map #[] 0) → Calls Tryz.prog 28 #[QV m nm false (some m), .agg (NDc kd s0 num0 (.slice d1 r1 u1) (.slice d2 r2 u2) (.slice d3 r3 u3) i0 k0 v0 (.slice d4 r4 u4))] w1 fun e w' => Put1 m nm val w1 e w') :
 Calls Tryz.prog 28 #[QV m ⟨#[]⟩ false none, .agg #[.int .i64 7, .string t, .int .i64 num, .slice (some ⟨na, 0, none⟩) 1 c1, .slice (some ⟨ka, 0, none⟩) 1 c2, .slice (some ⟨fa, 0, none⟩) 1 c3, .string item, .string kn, .string vn, .slice a4 n4 c4]] w fun e w' => Put1 m nm val w e w' := by
 have hXk : ¬ ka = m := by rintro rfl; rw [hm] at hka; cases hka
 have hlm := lt_of hm
 have hkidU := hkid
 unfold QV NDc at hkidU
 replace hkidU := Aside0.mk hkidU
 have hb := below_alloc (below_alloc (Below.refl w.heap.size w) (.cells #[.map (some m), .string ⟨#[]⟩, .bool false, .map none, .string ⟨#[]⟩, .bool false] 65)) (.cells #[.int .i64 7, .string t, .int .i64 num, .slice (some ⟨na, 0, none⟩) 1 c1, .slice (some ⟨ka, 0, none⟩) 1 c2, .slice (some ⟨fa, 0, none⟩) 1 c3, .string item, .string kn, .string vn, .slice a4 n4 c4] 28)
 have kn1 := heap_new (w.alloc (.cells #[.map (some m), .string ⟨#[]⟩, .bool false, .map none, .string ⟨#[]⟩, .bool false] 65)) (.cells #[.int .i64 7, .string t, .int .i64 num, .slice (some ⟨na, 0, none⟩) 1 c1, .slice (some ⟨ka, 0, none⟩) 1 c2, .slice (some ⟨fa, 0, none⟩) 1 c3, .string item, .string kn, .string vn, .slice a4 n4 c4] 28)
 have hz : (w.alloc (.cells #[.map (some m), .string ⟨#[]⟩, .bool false, .map none, .string ⟨#[]⟩, .bool false] 65)).heap.size = w.heap.size + 1 := by simp
 rw [hz] at kn1
 replace hb := Aside0.mk hb; replace kn1 := Aside0.mk kn1; replace hna := Aside0.mk hna; replace hka := Aside0.mk hka; replace hfa := Aside0.mk hfa; replace hm := Aside0.mk hm
 clear hkid hz
 unfold QV
 go_enter Tryz.func28, Tryz.ntmps28
 go_wp2_with fail
 generalize (w.alloc (.cells #[.map (some m), .string ⟨#[]⟩, .bool false, .map none, .string ⟨#[]⟩, .bool false] 65)).alloc (.cells #[.int .i64 7, .string t, .int .i64 num, .slice (some ⟨na, 0, none⟩) 1 c1, .slice (some ⟨ka, 0, none⟩) 1 c2, .slice (some ⟨fa, 0, none⟩) 1 c3, .string item, .string kn, .string vn, .slice a4 n4 c4] 28) = w1 at *
 obtain ⟨g, hg⟩ : ∃ g, w.heap.size = g := ⟨_, rfl⟩
 have hgm : Aside0 (m < g) := .mk (by omega)
 rw [hg] at kn1 ⊢
 refine (q68 m ⟨#[]⟩ false none w1).mono ?_
 rintro e w2 ⟨ob, rfl, _, ko2, hb2⟩
 have hF2 := Aside0.mk ((Fr.of_below (S := fun k => k = m) hb.out).trans (Fr.of_below (S := fun _ => False) hb2) (fun _ _ h => h.elim))
 have kn2 := heap_below hb2 kn1.out
 have kk2 := Aside0.mk (hF2.out.heap hka.out hXk)
 have kf2 := Aside0.mk (hF2.out.heap hfa.out (by rintro rfl; rw [hm.out] at hfa; exact absurd hfa.out (by simp)))
 have ks2 := Aside0.mk (hF2.out.heap hna.out (by rintro rfl; rw [hm.out] at hna; exact absurd hna.out (by simp)))
 have km2 := Aside0.mk (heap_below hb2 (heap_below hb.out hm.out))
 have m0 := cell_at kn2 0
 have m1 := cell_at kn2 1
 have m2 := cell_at kn2 2
 have m3 := cell_at kn2 3
 have m4 := cell_at kn2 4
 have m5 := cell_at kn2 5
 have m6 := cell_at kn2 6
 have m7 := cell_at kn2 7
 have m8 := cell_at kn2 8
 have m9 := cell_at kn2 9
 simp at m0 m1 m2 m3 m4 m5 m6 m7 m8 m9
 have e0 := cell_at ks2.out 0
 simp at e0
 replace kn2 := Aside0.mk kn2
 replace ko2 := Aside0.mk ko2
 clear hb2 kn1 hb
 go_wp2_with fail
 go_loopg [67] 2 (fun q v67 w' => (v67 = .int .i64 0 ∧ q = 2 ∧ w' = w2) ∨ (v67 = .int .i64 1 ∧ q = 1 ∧ Aside0 (Put1 m nm val w (.returned (.tuple #[])) w')))
 case atStart => exact .inl ⟨rfl, rfl, rfl⟩
 case round =>
  rcases hrel with ⟨rfl, rfl, rfl⟩ | ⟨rfl, rfl, hP⟩
  ·go_wp2_with fail
   refine (xflat0 t 7 num (some ⟨na, 0, none⟩) (some ⟨ka, 0, none⟩) a4 1 1 n4 c1 c2 c3 c4 fa item kn vn z3 _ kf2.out).mono ?_
   rintro e w4 ⟨rfl, hb⟩
   replace hF2 := Aside0.mk (hF2.out.trans (Fr.of_below (S := fun _ => False) hb) (fun _ _ h => h.elim))
   replace kn2 := heap_below hb kn2.out
   replace kk2 := heap_below hb kk2.out
   replace ko2 := heap_below hb ko2.out
   replace km2 := heap_below hb km2.out
   clear hb kf2 ks2 e0 m0 m1 m2 m3 m4 m5 m6 m7 m8 m9
   have y4 := cell_at kn2 4
   simp at y4
   have p0 := cell_at kk2 0
   have p1 := cell_at kk2 1
   have p2 := cell_at kk2 2
   have p3 := cell_at kk2 3
   have p4 := cell_at kk2 4
   have p5 := cell_at kk2 5
   have p6 := cell_at kk2 6
   have p7 := cell_at kk2 7
   have p8 := cell_at kk2 8
   have p9 := cell_at kk2 9
   unfold NDc at p0 p1 p2 p3 p4 p5 p6 p7 p8 p9
   simp at p0 p1 p2 p3 p4 p5 p6 p7 p8 p9
   replace kn2 := Aside0.mk kn2
   replace kk2 := Aside0.mk kk2
   replace ko2 := Aside0.mk ko2
   replace km2 := Aside0.mk km2
   go_wp2_with fail
   go_region_held3 (fun w' => w'.cell? ⟨g + 1, 4, none⟩ = some (.slice (some ⟨ka, 0, none⟩) 1 c2) ∧ w'.cell? ⟨ka, 0, none⟩ = some (.int .i64 kd) ∧ w'.cell? ⟨ka, 1, none⟩ = some (.string s0) ∧ w'.cell? ⟨ka, 2, none⟩ = some (.int .i64 num0) ∧ w'.cell? ⟨ka, 3, none⟩ = some (.slice d1 r1 u1) ∧ w'.cell? ⟨ka, 4, none⟩ = some (.slice d2 r2 u2) ∧ w'.cell? ⟨ka, 5, none⟩ = some (.slice d3 r3 u3) ∧ w'.cell? ⟨ka, 6, none⟩ = some (.string i0) ∧ w'.cell? ⟨ka, 7, none⟩ = some (.string k0) ∧ w'.cell? ⟨ka, 8, none⟩ = some (.string v0) ∧ w'.cell? ⟨ka, 9, none⟩ = some (.slice d4 r4 u4)) (simp [*, World.cell?_setCell_far]) (first | ((go_at_call 71; refine (q71 m ob nm w4.drew (heap_below (drewBx w4) ko2.out)).mono ?_; rintro e w5 ⟨rfl, hb⟩; replace hb := undrewx hb; have kn5 := heap_below hb kn2.out; have kk5 := heap_below hb kk2.out; have ko5 := heap_below hb ko2.out; have km5 := heap_below hb km2.out; have hF5 := Aside0.mk (hF2.out.trans (Fr.of_below (S := fun _ => False) hb) (fun _ _ h => h.elim)); clear hb; have y4 := cell_at kn5 4; simp at y4; have p0 := cell_at kk5 0; have p1 := cell_at kk5 1; have p2 := cell_at kk5 2; have p3 := cell_at kk5 3; have p4 := cell_at kk5 4; have p5 := cell_at kk5 5; have p6 := cell_at kk5 6; have p7 := cell_at kk5 7; have p8 := cell_at kk5 8; have p9 := cell_at kk5 9; unfold NDc at p0 p1 p2 p3 p4 p5 p6 p7 p8 p9; simp at p0 p1 p2 p3 p4 p5 p6 p7 p8 p9; replace kn5 := Aside0.mk kn5; replace kk5 := Aside0.mk kk5; replace ko5 := Aside0.mk ko5; replace km5 := Aside0.mk km5)) | ((go_at_call 28; refine (hkidU.out w5 km5.out).mono ?_; rintro e w6 ⟨rfl, hM, hF⟩; have kn6 := hF.heap kn5.out (by have := hgm.out; omega); have kk6 := hF.heap kk5.out hXk; have hP6 := Aside0.mk (Put1.from hF5.out ⟨rfl, hM, hF⟩); clear hM hF; have y4 := cell_at kn6 4; simp at y4; have p0 := cell_at kk6 0; have p1 := cell_at kk6 1; have p2 := cell_at kk6 2; have p3 := cell_at kk6 3; have p4 := cell_at kk6 4; have p5 := cell_at kk6 5; have p6 := cell_at kk6 6; have p7 := cell_at kk6 7; have p8 := cell_at kk6 8; have p9 := cell_at kk6 9; unfold NDc at p0 p1 p2 p3 p4 p5 p6 p7 p8 p9; simp at p0 p1 p2 p3 p4 p5 p6 p7 p8 p9; replace kn6 := Aside0.mk kn6; replace kk6 := Aside0.mk kk6)))
   all_goals
    go_wp2_with fail
    go_roundg 1
    case rel => exact .inr ⟨rfl, rfl, hP6⟩
    case measure => omega
  ·go_wp2
   refine bodyPost_end (results_none rfl _ _ _) rfl ?_
   exact hP.out

end H
end Go.Proofs.YtkihaebaccdjdaaGreatDoor
