import Derived.Test.YtkihaebaccdjdaaGreatDoorJ5
import Derived.Test.YtkihaebaccdjdaaGreatDoorJ15
import Derived.Test.YtkihaebaccdjdaaGreatDoorJ6
set_option linter.unusedVariables false
set_option linter.unusedSimpArgs false
namespace Go.Proofs.YtkihaebaccdjdaaGreatDoor
open Go.RowKit Go.Proofs.YtkihaebaccdjdaaGreatDoorW.PrintWords Go.Proofs.YtkihaebaccdjdaaGreatDoorW.PrintLast Go.Proofs.YtkihaebaccdjdaaGreatDoorW.PrintMore
open Go.ChangeMaps (setBlock)
namespace H
/-! ### impl.inForm: a text, an object with one kid -/
/-- What is left of a call that puts one entry into an empty map. -/
def Put1 (m : Nat) (key val : ByteArray) (w : World) (e : Ending) (w' : World) : Prop := e = .returned (.tuple #[]) ∧ (∃ r, w.heap.size ≤ r ∧ M1 m r key val w') ∧ Fr (fun k => k = m) w w'
theorem Put1.from {m : Nat} {key val : ByteArray} {w w1 w' : World} {e : Ending} (hb : Fr (fun k => k = m) w w1) (h : Put1 m key val w1 e w') : Put1 m key val w e w' := by
 obtain ⟨h1, ⟨r, h2, h3⟩, h4⟩ := h
 exact ⟨h1, ⟨r, Nat.le_trans hb.size h2, h3⟩, hb.trans h4 (fun _ _ h => h)⟩

set_option maxHeartbeats 4000000 in
set_option maxRecDepth 100000 in
theorem inf0 (m : Nat) (key : ByteArray) (fl : Bool) (s : ByteArray) (num : Int) (item kn vn : ByteArray) (a1 a2 a3 a4 : Option Addr) (n1 n2 n3 n4 c1 c2 c3 c4 : Nat) (w : World) (hm : w.heap[m]? = some (.map #[] 0)) :
 Calls Tryz.prog 28 #[QV m key fl (some m), ND 0 s num (.slice a1 n1 c1) (.slice a2 n2 c2) (.slice a3 n3 c3) item kn vn (.slice a4 n4 c4)] w fun e w' => Put1 m key s w e w' := by
 have hm1 := heap_old (heap_old hm (.cells #[.map (some m), .string key, .bool fl, .map (some m), .string key, .bool false] 65)) (.cells #[.int .i64 0, .string s, .int .i64 num, .slice a1 n1 c1, .slice a2 n2 c2, .slice a3 n3 c3, .string item, .string kn, .string vn, .slice a4 n4 c4] 28)
 have hb := below_alloc (below_alloc (Below.refl w.heap.size w) (.cells #[.map (some m), .string key, .bool fl, .map (some m), .string key, .bool false] 65)) (.cells #[.int .i64 0, .string s, .int .i64 num, .slice a1 n1 c1, .slice a2 n2 c2, .slice a3 n3 c3, .string item, .string kn, .string vn, .slice a4 n4 c4] 28)
 replace hm1 := Aside0.mk hm1; replace hb := Aside0.mk hb
 clear hm
 unfold QV ND
 go_enter Tryz.func28, Tryz.ntmps28
 go_wp2_with fail
 generalize (w.alloc (.cells #[.map (some m), .string key, .bool fl, .map (some m), .string key, .bool false] 65)).alloc (.cells #[.int .i64 0, .string s, .int .i64 num, .slice a1 n1 c1, .slice a2 n2 c2, .slice a3 n3 c3, .string item, .string kn, .string vn, .slice a4 n4 c4] 28) = w1 at *
 refine (q76 m key s fl w1 hm1.out).mono ?_
 rintro e w2 ⟨rfl, h1, h2⟩
 go_wp2
 refine bodyPost_end (results_none rfl _ _ _) rfl ?_
 exact Put1.from (Fr.of_below hb.out) ⟨rfl, h1, h2⟩

set_option maxHeartbeats 8000000 in
set_option maxRecDepth 100000 in
theorem inf1 {val : ByteArray} (m : Nat) (t : ByteArray) (num : Int) (nm item kn vn : ByteArray) (na ka fa : Nat) (a4 : Option Addr) (n4 c1 c2 c3 c4 : Nat)
 (kd : Int) (s0 : ByteArray) (num0 : Int) (i0 k0 v0 : ByteArray) (d1 d2 d3 d4 : Option Addr) (r1 r2 r3 r4 u1 u2 u3 u4 : Nat) (z1 z2 z3 : Nat × Nat) (w : World) (hm : w.heap[m]? = some (.map #[] 0))
 (hna : w.heap[na]? = some (.cells #[.string nm] 9 z1)) (hka : w.heap[ka]? = some (.cells (NDc kd s0 num0 (.slice d1 r1 u1) (.slice d2 r2 u2) (.slice d3 r3 u3) i0 k0 v0 (.slice d4 r4 u4)) 28 z2)) (hfa : w.heap[fa]? = some (.cells #[.bool false] 4 z3))
 (hkid : ∀ w1 : World, w1.heap[m]? = some (.map #[] 0) → Calls Tryz.prog 28 #[QV m nm false (some m), .agg (NDc kd s0 num0 (.slice d1 r1 u1) (.slice d2 r2 u2) (.slice d3 r3 u3) i0 k0 v0 (.slice d4 r4 u4))] w1 fun e w' => Put1 m nm val w1 e w') :
 Calls Tryz.prog 28 #[QV m ⟨#[]⟩ false none, .agg #[.int .i64 7, .string t, .int .i64 num, .slice (some ⟨na, 0, none⟩) 1 c1, .slice (some ⟨ka, 0, none⟩) 1 c2, .slice (some ⟨fa, 0, none⟩) 1 c3, .string item, .string kn, .string vn, .slice a4 n4 c4]] w fun e w' => Put1 m nm val w e w' := by
 have hXk : ¬ ka = m := by rintro rfl; rw [hm] at hka; cases hka
 have hlm := lt_of hm
 have hkidU := hkid
 unfold QV NDc at hkidU
 replace hkidU := Aside0.mk hkidU
 have hb := below_alloc (below_alloc (Below.refl w.heap.size w) (.cells #[.map (some m), .string ⟨#[]⟩, .bool false, .map none, .string ⟨#[]⟩, .bool false] 65)) (.cells #[.int .i64 7, .string t, .int .i64 num, .slice (some ⟨na, 0, none⟩) 1 c1, .slice (some ⟨ka, 0, none⟩) 1 c2, .slice (some ⟨fa, 0, none⟩) 1 c3, .string item, .string kn, .string vn, .slice a4 n4 c4] 28)
 have kn1 := heap_new (w.alloc (.cells #[.map (some m), .string ⟨#[]⟩, .bool false, .map none, .string ⟨#[]⟩, .bool false] 65)) (.cells #[.int .i64 7, .string t, .int .i64 num, .slice (some ⟨na, 0, none⟩) 1 c1, .slice (some ⟨ka, 0, none⟩) 1 c2, .slice (some ⟨fa, 0, none⟩) 1 c3, .string item, .string kn, .string vn, .slice a4 n4 c4] 28)
 have hz : (w.alloc (.cells #[.map (some m), .string ⟨#[]⟩, .bool false, .map none, .string ⟨#[]⟩, .bool false] 65)).heap.size = w.heap.size + 1 := by simp
 rw [hz] at kn1
 replace hb := Aside0.mk hb; replace kn1 := Aside0.mk kn1; replace hna := Aside0.mk hna; replace hka := Aside0.mk hka; replace hfa := Aside0.mk hfa; replace hm := Aside0.mk hm
 clear hkid hz
 unfold QV
 go_enter Tryz.func28, Tryz.ntmps28
 go_wp2_with fail
 generalize (w.alloc (.cells #[.map (some m), .string ⟨#[]⟩, .bool false, .map none, .string ⟨#[]⟩, .bool false] 65)).alloc (.cells #[.int .i64 7, .string t, .int .i64 num, .slice (some ⟨na, 0, none⟩) 1 c1, .slice (some ⟨ka, 0, none⟩) 1 c2, .slice (some ⟨fa, 0, none⟩) 1 c3, .string item, .string kn, .string vn, .slice a4 n4 c4] 28) = w1 at *
 obtain ⟨g, hg⟩ : ∃ g, w.heap.size = g := ⟨_, rfl⟩
 have hgm : Aside0 (m < g) := .mk (by omega)
 rw [hg] at kn1 ⊢
 refine (q68 m ⟨#[]⟩ false none w1).mono ?_
 rintro e w2 ⟨ob, rfl, _, ko2, hb2⟩
 have hF2 := Aside0.mk ((Fr.of_below (S := fun k => k = m) hb.out).trans (Fr.of_below (S := fun _ => False) hb2) (fun _ _ h => h.elim))
 have kn2 := heap_below hb2 kn1.out
 have kk2 := Aside0.mk (hF2.out.heap hka.out hXk)
 have kf2 := Aside0.mk (hF2.out.heap hfa.out (by rintro rfl; rw [hm.out] at hfa; exact absurd hfa.out (by simp)))
 have ks2 := Aside0.mk (hF2.out.heap hna.out (by rintro rfl; rw [hm.out] at hna; exact absurd hna.out (by simp)))
 have km2 := Aside0.mk (heap_below hb2 (heap_below hb.out hm.out))
 have m0 := cell_at kn2 0
 have m1 := cell_at kn2 1
 have m2 := cell_at kn2 2
 have m3 := cell_at kn2 3
 have m4 := cell_at kn2 4
 have m5 := cell_at kn2 5
 have m6 := cell_at kn2 6
 have m7 := cell_at kn2 7
 have m8 := cell_at kn2 8
 have m9 := cell_at kn2 9
 simp at m0 m1 m2 m3 m4 m5 m6 m7 m8 m9
 have e0 := cell_at ks2.out 0
 simp at e0
 replace kn2 := Aside0.mk kn2
 replace ko2 := Aside0.mk ko2
 clear hb2 kn1 hb
 go_wp2_with fail
 go_loopg [67] 2 (fun q v67 w' => (v67 = .int .i64 0 ∧ q = 2 ∧ w' = w2) ∨ (v67 = .int .i64 1 ∧ q = 1 ∧ Aside0 (Put1 m nm val w (.returned (.tuple #[])) w')))
 case atStart => exact .inl ⟨rfl, rfl, rfl⟩
 case round =>
  rcases hrel with ⟨rfl, rfl, rfl⟩ | ⟨rfl, rfl, hP⟩
  ·go_wp2_with fail
   refine (xflat0 t 7 num (some ⟨na, 0, none⟩) (some ⟨ka, 0, none⟩) a4 1 1 n4 c1 c2 c3 c4 fa item kn vn z3 _ kf2.out).mono ?_
   rintro e w4 ⟨rfl, hb⟩
   replace hF2 := Aside0.mk (hF2.out.trans (Fr.of_below (S := fun _ => False) hb) (fun _ _ h => h.elim))
   replace kn2 := heap_below hb kn2.out
   replace kk2 := heap_below hb kk2.out
   replace ko2 := heap_below hb ko2.out
   replace km2 := heap_below hb km2.out
   clear hb kf2 ks2 e0 m0 m1 m2 m3 m4 m5 m6 m7 m8 m9
   have y4 := cell_at kn2 4
   simp at y4
   have p0 := cell_at kk2 0
   have p1 := cell_at kk2 1
   have p2 := cell_at kk2 2
   have p3 := cell_at kk2 3
   have p4 := cell_at kk2 4
   have p5 := cell_at kk2 5
   have p6 := cell_at kk2 6
   have p7 := cell_at kk2 7
   have p8 := cell_at kk2 8
   have p9 := cell_at kk2 9
   unfold NDc at p0 p1 p2 p3 p4 p5 p6 p7 p8 p9
   simp at p0 p1 p2 p3 p4 p5 p6 p7 p8 p9
   replace kn2 := Aside0.mk kn2
   replace kk2 := Aside0.mk kk2
   replace ko2 := Aside0.mk ko2
   replace km2 := Aside0.mk km2
   go_wp2_with fail
   go_region_held3 (fun w' => w'.cell? ⟨g + 1, 4, none⟩ = some (.slice (some ⟨ka, 0, none⟩) 1 c2) ∧ w'.cell? ⟨ka, 0, none⟩ = some (.int .i64 kd) ∧ w'.cell? ⟨ka, 1, none⟩ = some (.string s0) ∧ w'.cell? ⟨ka, 2, none⟩ = some (.int .i64 num0) ∧ w'.cell? ⟨ka, 3, none⟩ = some (.slice d1 r1 u1) ∧ w'.cell? ⟨ka, 4, none⟩ = some (.slice d2 r2 u2) ∧ w'.cell? ⟨ka, 5, none⟩ = some (.slice d3 r3 u3) ∧ w'.cell? ⟨ka, 6, none⟩ = some (.string i0) ∧ w'.cell? ⟨ka, 7, none⟩ = some (.string k0) ∧ w'.cell? ⟨ka, 8, none⟩ = some (.string v0) ∧ w'.cell? ⟨ka, 9, none⟩ = some (.slice d4 r4 u4)) (simp [*, World.cell?_setCell_far]) (first | ((go_at_call 71; refine (q71 m ob nm w4.drew (heap_below (drewBx w4) ko2.out)).mono ?_; rintro e w5 ⟨rfl, hb⟩; replace hb := undrewx hb; have kn5 := heap_below hb kn2.out; have kk5 := heap_below hb kk2.out; have ko5 := heap_below hb ko2.out; have km5 := heap_below hb km2.out; have hF5 := Aside0.mk (hF2.out.trans (Fr.of_below (S := fun _ => False) hb) (fun _ _ h => h.elim)); clear hb; have y4 := cell_at kn5 4; simp at y4; have p0 := cell_at kk5 0; have p1 := cell_at kk5 1; have p2 := cell_at kk5 2; have p3 := cell_at kk5 3; have p4 := cell_at kk5 4; have p5 := cell_at kk5 5; have p6 := cell_at kk5 6; have p7 := cell_at kk5 7; have p8 := cell_at kk5 8; have p9 := cell_at kk5 9; unfold NDc at p0 p1 p2 p3 p4 p5 p6 p7 p8 p9; simp at p0 p1 p2 p3 p4 p5 p6 p7 p8 p9; replace kn5 := Aside0.mk kn5; replace kk5 := Aside0.mk kk5; replace ko5 := Aside0.mk ko5; replace km5 := Aside0.mk km5)) | ((go_at_call 28; refine (hkidU.out w5 km5.out).mono ?_; rintro e w6 ⟨rfl, hM, hF⟩; have kn6 := hF.heap kn5.out (by have := hgm.out; omega); have kk6 := hF.heap kk5.out hXk; have hP6 := Aside0.mk (Put1.from hF5.out ⟨rfl, hM, hF⟩); clear hM hF; have y4 := cell_at kn6 4; simp at y4; have p0 := cell_at kk6 0; have p1 := cell_at kk6 1; have p2 := cell_at kk6 2; have p3 := cell_at kk6 3; have p4 := cell_at kk6 4; have p5 := cell_at kk6 5; have p6 := cell_at kk6 6; have p7 := cell_at kk6 7; have p8 := cell_at kk6 8; have p9 := cell_at kk6 9; unfold NDc at p0 p1 p2 p3 p4 p5 p6 p7 p8 p9; simp at p0 p1 p2 p3 p4 p5 p6 p7 p8 p9; replace kn6 := Aside0.mk kn6; replace kk6 := Aside0.mk kk6)))
   all_goals
    go_wp2_with fail
    go_roundg 1
    case rel => exact .inr ⟨rfl, rfl, hP6⟩
    case measure => omega
  ·go_wp2
   refine bodyPost_end (results_none rfl _ _ _) rfl ?_
   exact hP.out

end H
end Go.Proofs.YtkihaebaccdjdaaGreatDoor
set_option linter.unusedVariables false
set_option linter.unusedSimpArgs false
namespace Go.Proofs.YtkihaebaccdjdaaGreatDoor
open Go.RowKit Go.Proofs.YtkihaebaccdjdaaGreatDoorW.PrintWords Go.Proofs.YtkihaebaccdjdaaGreatDoorW.PrintLast Go.Proofs.YtkihaebaccdjdaaGreatDoorW.PrintMore
namespace H
/-! ### awsquery: the writer behind Encode -/
theorem mWW (g : Nat) (v : Value) (w : World) (h : w.cell? ⟨g, 0, none⟩ = some v) : (method 395 136 (.pointer (some ⟨g, 0, none⟩)) "WriteString").run Tryz.prog w = .ok (266, .agg #[v]) w := by
 have hm : (Tryz.prog.info? 136).map (fun i => (i.methods.find? (·.name == "WriteString")).map (fun m => (m.path, m.func))) = some (some (#[], some (266, false))) := by kernel_rfl
 obtain ⟨i, hi, hm⟩ := Option.map_eq_some_iff.1 hm
 obtain ⟨m, hf, hm⟩ := Option.map_eq_some_iff.1 hm
 simp only [Prod.mk.injEq] at hm
 have h1 : (isAgg 138).run Tryz.prog w = .ok true w := by kernel_rfl
 have h2 : (sizeOf 138).run Tryz.prog w = .ok 1 w := by kernel_rfl
 have hL : (loadVar 138 ⟨g, 0, none⟩).run Tryz.prog w = .ok (.agg #[v]) w := by
  have h3 : (loadCells ⟨g, 0, none⟩ 1).run Tryz.prog w = .ok #[v] w := run_loadCells_list (P := Tryz.prog) (w := w) ⟨g, 0, none⟩ [v] (fun j u hj => by
   cases j with
   | zero => simp at hj; subst hj; rw [plain_add]; exact h
   | succ j => simp at hj)
  simp only [loadVar, Sem.run_bind, h1, Result.andThen_ok, if_true, h2]
  rw [h3]
  rfl
 have hr : ∀ nm : String, (receiverAt 136 (.val (.pointer (some ⟨g, 0, none⟩))) false (some nm)).run Tryz.prog w = .ok (.agg #[v]) w := fun nm => by
  have hn : (Builtin.ssaWrapNilChk_ #[136] 136 #[.pointer (some ⟨g, 0, none⟩), strVal "", strVal nm]).run Tryz.prog w = .ok (.pointer (some ⟨g, 0, none⟩)) w := rfl
  unfold receiverAt
  simp only [Sem.run_bind, run_underlying Tryz.underlying136, Result.andThen_ok, Place.get, Sem.run_pure, hn]
  simp [asAddr, hL, Result.andThen]
 show (method (394 + 1) 136 _ _).run _ _ = _
 rw [method]
 simp [typeInfo, hi, hf, hm.1, hm.2, follow, Result.andThen, hr]
theorem nilWW (a : Addr) (w : World) : (nilAhead 395 136 (.pointer (some a)) "WriteString").run Tryz.prog w = .ok (some false) w := by kernel_rfl
theorem mZW (a : Addr) (w : World) : (method 395 52 (.pointer (some a)) "Write").run Tryz.prog w = .ok (257, .pointer (some a)) w := by kernel_rfl
set_option maxHeartbeats 400000 in
set_option maxRecDepth 100000 in
theorem zw {B b : Nat} {X : Nat → Prop} {xs : List Int} (A : Option Addr) (n c : Nat) (ys : List Int) (w : World) (h : JB 54 B X b xs w) (hr : ReadsInt w .u8 A n ys) (hl : xs.length + n ≤ 140737488355328) :
 Calls Tryz.prog 257 #[.pointer (some ⟨b, 0, none⟩), .slice A n c] w fun e w' => e = .returned (.tuple #[.int .i64 n, .nilIface]) ∧ Wrote 54 B X b (xs ++ ys) w w' := by
 have Hr := Aside0.mk hr; clear hr
 obtain ⟨v, hb, ho, hX⟩ := h.out
 have hc := cell_of hb
 have hlt : b < w.heap.size := lt_of hb
 have hB : B ≤ w.heap.size := by have := h.ge; omega
 have Hb := Aside0.mk hb; clear hb
 have Ho := Aside0.mk ho; clear ho
 have HX := Aside0.mk hX; clear hX
 have HH := Aside0.mk h; clear h
 go_enter Tryz.func257, Tryz.ntmps257
 go_wp2_with (at_builtin; refine print_append_row (w0 := w) B rfl (.tmp 10) (.tmp 11) 22 5 .u8 1 rfl Tryz.underlying22 inf5 (by omega) v xs ys A n c rfl rfl Ho.out Hr.out (Below.refl _ _) hB (by omega) ?_; intro v1 w1 ho1 hb1 hg1 hat1; have hP := HH.out.put_at Hb.out Ho.out HX.out hg1 ho1 hat1; obtain ⟨A1, c1, rfl⟩ := own_slice ho1; have hB1 := (hg1.block b hlt (fun e => own_ne (by decide) Hb.out Ho.out b e.symm rfl)).trans Hb.out; have hc1 := cell_of hB1; have hf1 := free_of hB1 0; have HB1 := Aside0.mk hB1; have HP := Aside0.mk hP; clear hB1 ho1 hg1 hat1 hP)
 go_ret2
 exact ⟨rfl, by simpa using HP.out⟩
set_option maxHeartbeats 1000000 in
set_option maxRecDepth 100000 in
theorem ww {B b : Nat} {X : Nat → Prop} {xs : List Int} (s : ByteArray) (w : World) (h : JB 54 B X b xs w) (hs : s.size ≤ 2147483647) (hl : xs.length + s.size ≤ 140737488355328) :
 Calls Tryz.prog 266 #[.agg #[.iface 52 (.pointer (some ⟨b, 0, none⟩))], .string s] w fun e w' => ∃ n, e = .returned (.tuple #[n, .nilIface]) ∧ Wrote 54 B X b (xs ++ bytesOf s) w w' := by
 have hcv := fun (w : World) (s : ByteArray) => Lib.run_convert_string_bytes (P := Tryz.prog) w 9 22 5 s (u := .string) Tryz.underlying9 Tryz.underlying22 Tryz.underlying5
 have hm := mZW ⟨b, 0, none⟩
 replace h := Aside0.mk h
 go_enter Tryz.func266, Tryz.ntmps266
 go_wp2_with fail
 have hb := below_alloc (Below.refl w.heap.size w) (.cells #[.iface 52 (.pointer (some ⟨b, 0, none⟩))] 138)
 have hsz : (w.alloc (.cells #[.iface 52 (.pointer (some ⟨b, 0, none⟩))] 138)).heap.size = w.heap.size + 1 := by simp
 generalize w.alloc (.cells #[.iface 52 (.pointer (some ⟨b, 0, none⟩))] 138) = w1 at *
 have hb1 := bytesWorld_below w1 s
 have ha1 := BAt.of_string w1 s
 rw [hsz] at ha1
 rw [← strZs_length w1 s]
 have ht1 := strZs_take w1 s
 have hc1 : (strZs w1 s).length ≤ 9223372036854775807 := by rw [strZs_length]; have := grownCap_le_maxLen w1 s.size 0 5 (by unfold maxLen; omega); unfold maxLen at this; omega
 have hle : s.size ≤ (strZs w1 s).length := by rw [strZs_length]; exact grownCap_ge w1 s.size 0 5
 have hb2 := Aside0.mk (below_then hb hb.size hb1)
 have hgl := ha1.lt
 generalize strZs w1 s = z1 at *
 generalize Lib.bytesWorld w1 5 s = w2 at *
 have hJ2 := h.out.re (X' := fun k => X k ∨ k = w.heap.size + 1) (fun k hk => hk.imp id (fun e => by omega)) (fun k hk => by rcases hk with e | e; have := h.out.low k e; have := hb2.out.size; omega; omega) hb2.out
 have hrd := seg_reads ha1 0 s.size (by omega) hc1
 rw [List.drop_zero, ht1] at hrd
 refine (zw (some ⟨w.heap.size + 1, 0, none⟩) s.size z1.length (bytesOf s) w2 hJ2 hrd hl).mono ?_
 rintro e w3 ⟨rfl, hw3⟩
 go_wp2
 go_ret2
 exact ⟨_, rfl, Wrote.from hb2.out h.out.low hw3 (fun k hk => .inl hk)⟩
/-! ### net/url -/
def tabL : List Int := [0, 0, 0, 0, 0, 0, 0, 0, 0, 0, 0, 0, 0, 0, 0, 0, 0, 0, 0, 0, 0, 0, 0, 0, 0, 0, 0, 0, 0, 0, 0, 0, 0, 76, 12, 0, 95, 0, 95, 12, 76, 76, 76, 95, 93, 127, 127, 65, 255, 255, 255, 255, 255, 255, 255, 255, 255, 255, 79, 93, 12, 95, 12, 64, 67, 255, 255, 255, 255, 255, 255, 127, 127, 127, 127, 127, 127, 127, 127, 127, 127, 127, 127, 127, 127, 127, 127, 127, 127, 127, 127, 12, 0, 12, 0, 127, 0, 255, 255, 255, 255, 255, 255, 127, 127, 127, 127, 127, 127, 127, 127, 127, 127, 127, 127, 127, 127, 127, 127, 127, 127, 127, 127, 0, 0, 0, 127, 0, 0, 0, 0, 0, 0, 0, 0, 0, 0, 0, 0, 0, 0, 0, 0, 0, 0, 0, 0, 0, 0, 0, 0, 0, 0, 0, 0, 0, 0, 0, 0, 0, 0, 0, 0, 0, 0, 0, 0, 0, 0, 0, 0, 0, 0, 0, 0, 0, 0, 0, 0, 0, 0, 0, 0, 0, 0, 0, 0, 0, 0, 0, 0, 0, 0, 0, 0, 0, 0, 0, 0, 0, 0, 0, 0, 0, 0, 0, 0, 0, 0, 0, 0, 0, 0, 0, 0, 0, 0, 0, 0, 0, 0, 0, 0, 0, 0, 0, 0, 0, 0, 0, 0, 0, 0, 0, 0, 0, 0, 0, 0, 0, 0, 0, 0, 0, 0, 0, 0, 0, 0, 0, 0, 0, 0, 0, 0, 0]
def tab (c : Nat) : Int := tabL.getD c 0
/-- The table's cells are laid in the world. -/
def Tab (w : World) : Prop := ∀ c : Nat, c < 256 → w.cell? ⟨0, c, none⟩ = some (.int .u8 (tab c))
theorem Tab.lt {w : World} (h : Tab w) : 0 < w.heap.size := World.block_lt_of_cell? w _ (h 0 (by omega))
theorem Tab.fr {S : Nat → Prop} {w w1 : World} (h : Tab w) (hb : Fr S w w1) (hB : ¬ S 0) : Tab w1 := fun c hc => by
 rw [World.cell?_of_block (w := w) (hb.block 0 h.lt hB)]; exact h c hc
theorem Tab.below {w w1 : World} (h : Tab w) (hb : Below w.heap.size w w1) : Tab w1 := h.fr (Fr.of_below (S := fun _ => False) hb) (fun h => h)
set_option maxRecDepth 100000 in
theorem tab_range (c : Nat) : 0 ≤ tab c ∧ tab c ≤ 255 := by
 have h : ∀ c : Nat, c < 256 → 0 ≤ tab c ∧ tab c ≤ 255 := by decide +kernel
 by_cases hc : c < 256
 ·exact h c hc
 ·have : tab c = 0 := by unfold tab; rw [List.getD_eq_getElem?_getD, List.getElem?_eq_none (by rw [show tabL.length = 256 from by decide]; omega)]; rfl
  omega
/-- What must be escaped, by mode. -/
def should (c : Int) (m : Int) : Bool := Go.bits .and .u8 (tab c.toNat) m == 0
set_option maxHeartbeats 400000 in
set_option maxRecDepth 100000 in
theorem should_call (c m : Int) (w : World) (hT : Tab w) (h0 : 0 ≤ c) (h1 : c ≤ 255) :
 Calls Tryz.prog 190 #[.int .u8 c, .int .u8 m] w fun e w' => e = .returned (.bool (should c m)) ∧ w = w' := by
 obtain ⟨n, rfl⟩ := Int.eq_ofNat_of_zero_le h0
 have hc := hT n (by omega)
 have hr := tab_range n
 clear hT
 go_enter Tryz.func190, Tryz.ntmps190
 go_wp2
 go_ret
 exact ⟨rfl, rfl⟩
set_option maxHeartbeats 4000000 in
set_option maxRecDepth 100000 in
/-- Nothing to escape. -/
theorem escp (s : ByteArray) (w : World) (hT : Tab w) (hs : s.size ≤ 2147483647) (hp : ∀ c ∈ bytesOf s, should c 32 = false) :
 Calls Tryz.prog 146 #[.string s, .int .u8 32] w fun e w' => e = .returned (.string s) ∧ Below w.heap.size w w' := by
 have hcv := fun (w : World) (s : ByteArray) => Lib.run_convert_string_bytes (P := Tryz.prog) w 9 22 5 s (u := .string) Tryz.underlying9 Tryz.underlying22 Tryz.underlying5
 replace hp := Aside0.mk hp; replace hT := Aside0.mk hT
 go_enter Tryz.func146, Tryz.ntmps146
 go_wp2_with fail
 have hb1 := bytesWorld_below w s
 have ha1 := BAt.of_string w s
 rw [← strZs_length w s]
 have ht1 := strZs_take w s
 have hle : s.size ≤ (strZs w s).length := by rw [strZs_length]; exact grownCap_ge w s.size 0 5
 generalize strZs w s = z1 at *
 generalize Lib.bytesWorld w 5 s = w2 at *
 obtain ⟨n, hn⟩ : ∃ n, s.size = n := ⟨_, rfl⟩
 have hT2 := Aside0.mk (hT.out.below hb1)
 replace hb1 := Aside0.mk hb1; replace ha1 := Aside0.mk ha1; replace ht1 := Aside0.mk ht1
 rw [hn] at hs hle ht1 ⊢
 replace hn := Aside0.mk hn
 go_loopg [5, 6, 19] n (fun q v5 v6 v19 w' => ∃ i : Nat, v5 = .int .i64 0 ∧ v6 = .int .i64 0 ∧ v19 = .int .i64 i ∧ i ≤ n ∧ Aside0 (q = n - i) ∧ w' = w2)
 case atStart => exact ⟨0, rfl, rfl, rfl, Nat.zero_le _, ⟨by omega⟩, rfl⟩
 case round =>
  obtain ⟨i, rfl, rfl, rfl, hin, hq, rfl⟩ := hrel
  by_cases hlt : i < n
  ·have hcell := ha1.out.cell i (by omega)
   have hx : z1.getD i 0 ∈ bytesOf s := by
    rw [← ht1.out, List.getD_eq_getElem?_getD, List.getElem?_eq_getElem (by omega)]
    exact List.mem_take_iff_getElem.2 ⟨i, by omega, rfl⟩
   have hpx := hp.out _ hx
   have hrx : 0 ≤ z1.getD i 0 ∧ z1.getD i 0 ≤ 255 := by
    unfold bytesOf at hx
    obtain ⟨u, _, hu⟩ := List.mem_map.1 hx
    have := u.toNat_lt
    omega
   have hcall := should_call (z1.getD i 0) 32 wr hT2.out hrx.1 hrx.2
   rw [hpx] at hcall
   generalize z1.getD i 0 = x at *
   replace hcall := Aside0.mk hcall
   clear hx hpx
   go_wp2_with fail
   refine hcall.out.mono ?_
   rintro e w3 ⟨rfl, rfl⟩
   go_wp2_with fail
   go_roundg (n - (i + 1))
   case rel => exact ⟨i + 1, rfl, rfl, by go_num, by omega, ⟨rfl⟩, rfl⟩
   case measure => have := hq.out; omega
  ·obtain rfl : i = n := by omega
   go_wp2
   go_ret
   exact ⟨rfl, hb1.out⟩
set_option maxRecDepth 100000 in
theorem qescp (s : ByteArray) (w : World) (hT : Tab w) (hs : s.size ≤ 2147483647) (hp : ∀ c ∈ bytesOf s, should c 32 = false) :
 Calls Tryz.prog 78 #[.string s] w fun e w' => e = .returned (.string s) ∧ Below w.heap.size w w' := by
 replace hp := Aside0.mk hp; replace hT := Aside0.mk hT
 go_enter Tryz.func78, Tryz.ntmps78
 go_wp2_with fail
 refine (escp s w hT.out hs hp.out).mono ?_
 rintro e w1 ⟨rfl, hb⟩
 replace hb := Aside0.mk hb
 go_wp2
 go_ret
 exact ⟨rfl, hb.out⟩
end H
end Go.Proofs.YtkihaebaccdjdaaGreatDoor
