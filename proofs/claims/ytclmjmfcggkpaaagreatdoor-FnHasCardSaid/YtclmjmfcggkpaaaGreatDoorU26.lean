import Derived.Test.YtclmjmfcggkpaaaGreatDoorU19
set_option linter.unusedVariables false
set_option linter.unusedSimpArgs false
namespace Go.Proofs.YtclmjmfcggkpaaaGreatDoor
open Go.RowKit Go.Proofs.YtclmjmfcggkpaaaGreatDoorW.PrintWords Go.Proofs.YtclmjmfcggkpaaaGreatDoorW.PrintLast Go.Proofs.YtclmjmfcggkpaaaGreatDoorW.PrintMore
open PX
namespace HH
open H
/-! ### strings.TrimSpace of a text without spaces -/
def Spc (w : World) : Prop := ∀ c : Nat, 33 ≤ c → c < 127 → w.cell? ⟨0, c, none⟩ = some (.int .u8 0)
theorem Spc.lt {w : World} (h : Spc w) : 0 < w.heap.size := World.block_lt_of_cell? w _ (h 40 (by omega) (by omega))
theorem Spc.below {w w1 : World} (h : Spc w) {B : Nat} (hb : Below B w w1) (hB : 0 < B) : Spc w1 := fun c hc hd => by rw [hb.cell (p := ⟨0, c, none⟩) hB]; exact h c hc hd
theorem Spc.calm {w w1 : World} (h : Spc w) (hb : Below w.heap.size w w1) : Spc w1 := h.below hb h.lt
def noSp (s : ByteArray) : Prop := ∀ i : Nat, i < s.size → 33 ≤ bt s i ∧ bt s i < 127
set_option maxHeartbeats 1000000 in
set_option maxRecDepth 100000 in
theorem trim_call (s : ByteArray) (w : World) (hS : Spc w) (hn : noSp s) (hs : s.size ≤ 1099511627776) :
 Calls Tryz.prog 123 #[.string s] w fun e w' => e = .returned (.string s) ∧ Below w.heap.size w w' := by
 have hcv := fun (w : World) (s : ByteArray) => Lib.run_convert_string_bytes (P := Tryz.prog) w 9 104 5 s (u := .string) Tryz.underlying9 Tryz.underlying104 Tryz.underlying5
 replace hS := Aside0.mk hS
 go_enter Tryz.func123, Tryz.ntmps123
 go_wp2_with fail
 have hb1 := bytesWorld_below w s
 have ha1 := BAt.of_string w s
 rw [← strZs_length w s]
 have ht1 := strZs_take w s
 have hc1 : (strZs w s).length ≤ 9223372036854775807 := by rw [strZs_length]; have := grownCap_le_maxLen w s.size 0 5 (by unfold maxLen; omega); unfold maxLen at this; omega
 generalize strZs w s = z1 at *
 generalize Lib.bytesWorld w 5 s = w1 at *
 replace hb1 := Aside0.mk hb1
 rcases Nat.eq_zero_or_pos s.size with h0 | h0
 ·have he : s = ⟨#[]⟩ := by
   have hd : s.data.size = 0 := h0
   obtain ⟨d⟩ := s
   simp at hd
   rw [hd]
  refine wp_loop_rounds 1 ?_
  rw [rounds_succ]
  have hlt : ¬ ((0 : Int) < (s.size : Int)) := by omega
  go_wp2
  go_ret
  exact ⟨rfl, hb1.out⟩
 ·have hz : s.size ≤ z1.length := by
   have := congrArg List.length ht1
   simp [bytesOf_length] at this; omega
  have hx := ha1.cell 0 (by omega)
  have e0 : z1.getD 0 0 = bt s 0 := by
   have h1 : z1.getD 0 0 = (z1.take s.size).getD 0 0 := by
    rw [List.getD_eq_getElem?_getD, List.getD_eq_getElem?_getD, List.getElem?_take, if_pos (by omega)]
   rw [h1, ht1]
   exact rd_bytesOf s 0
  rw [e0] at hx
  have g0 : 33 ≤ bt s 0 ∧ bt s 0 < 127 := hn 0 h0
  have g1 := hn (s.size - 1) (by omega)
  have hS1 := hS.out.calm hb1.out
  have hy0 := hS1 (bt s 0).toNat (by omega) (by omega)
  have hlt1 : s.size - 1 < s.size := by omega
  have hbt : ((s[s.size - 1]'hlt1).toNat : Int) = bt s ((s.size - 1 : Nat) : Int) := bt_at s ((s.size - 1 : Nat) : Int) hlt1
  have q0 : bt s 0 < 128 := by omega
  have q1 : ((s[s.size - 1]'hlt1).toNat : Int) < 128 := by omega
  have q2 : (s[s.size - 1]'hlt1).toNat < 128 := by omega
  have q4 : (1 : Int) ≤ (s.size : Int) := by omega
  have hy1 := hS1 (s[s.size - 1]'hlt1).toNat (by omega) (by omega)
  clear hbt
  have hext : s.extract 0 s.size = s := by simp
  have htn : ((s.size : Int) - 1).toNat < s.size := by omega
  have ht2 : ((s.size : Int) - 1 + 1).toNat = s.size := by omega
  replace ha1 := Aside0.mk ha1
  clear hS1 ht1
  refine wp_loop_rounds 1 ?_
  rw [rounds_succ]
  go_wp2_with fail
  refine wp_loop_rounds 1 ?_
  rw [rounds_succ]
  go_wp2
  go_ret
  exact ⟨rfl, hb1.out⟩
end HH
end Go.Proofs.YtclmjmfcggkpaaaGreatDoor
set_option linter.unusedVariables false
set_option linter.unusedSimpArgs false
namespace Go.Proofs.YtclmjmfcggkpaaaGreatDoor
open Go.RowKit Go.Proofs.YtclmjmfcggkpaaaGreatDoorW.PrintWords Go.Proofs.YtclmjmfcggkpaaaGreatDoorW.PrintLast Go.Proofs.YtclmjmfcggkpaaaGreatDoorW.PrintMore
open PX
namespace HH
open H
/-! ### Header values of an encoder -/
set_option maxHeartbeats 400000 in
set_option maxRecDepth 100000 in
theorem newHV_call (m : Nat) (key : ByteArray) (add : Bool) (w : World) (hS : Spc w) (hk : noSp key) (hz : key.size ≤ 1099511627776) :
 Calls Tryz.prog 122 #[.map (some m), .string key, .bool add] w fun e w' => e = .returned (HV m key add) ∧ Below w.heap.size w w' := by
 replace hS := Aside0.mk hS
 go_enter Tryz.func122, Tryz.ntmps122
 go_wp2_with fail
 have hu := heap_new w (.cells #[.map none, .string ⟨#[]⟩, .bool false] 125)
 have hb1 := below_alloc (Below.refl w.heap.size w) (.cells #[.map none, .string ⟨#[]⟩, .bool false] 125)
 generalize w.alloc (.cells #[.map none, .string ⟨#[]⟩, .bool false] 125) = w1 at *
 refine (trim_call key w1 (hS.out.calm hb1) hk hz).mono ?_
 rintro e w2 ⟨rfl, hb⟩
 have h := heap_below hb hu
 have hF := Aside0.mk (below_then hb1 hb1.size hb)
 generalize hub : w.heap.size = ub at *
 have e0 := cell_at h 0; have e1 := cell_at h 1; have e2 := cell_at h 2
 have d0 := free_of h 0; have d1 := free_of h 1; have d2 := free_of h 2
 simp at e0 e1 e2
 clear h hu hb hb1
 go_wp2
 (try simp only [Exit.inBlock, Exit.then])
 refine bodyPost_ret (v := HV m key add) ?_ rfl ⟨rfl, ?_⟩
 ·simp only [results, HV]; go_simp
 ·subst hub
  exact ((hF.out.setCell (p := ⟨w.heap.size, 0, none⟩) (Nat.le_refl _) _).setCell (p := ⟨w.heap.size, 1, none⟩) (Nat.le_refl _) _).setCell (p := ⟨w.heap.size, 2, none⟩) (Nat.le_refl _) _
set_option maxHeartbeats 400000 in
set_option maxRecDepth 100000 in
theorem setHdr_call (eb m : Nat) (key : ByteArray) (w : World) (hS : Spc w) (hk : noSp key) (hz : key.size ≤ 1099511627776) (he : w.cell? ⟨eb, 4, none⟩ = some (.map (some m))) :
 Calls Tryz.prog 76 #[.pointer (some ⟨eb, 0, none⟩), .string key] w fun e w' => e = .returned (HV m key false) ∧ Below w.heap.size w w' := by
 replace hS := Aside0.mk hS
 have hlt := World.block_lt_of_cell? w _ he
 go_enter Tryz.func76, Tryz.ntmps76
 go_wp2_with fail
 have hu := heap_new w (.cells #[.map none, .string ⟨#[]⟩, .bool false] 125)
 have hb1 := below_alloc (Below.refl w.heap.size w) (.cells #[.map none, .string ⟨#[]⟩, .bool false] 125)
 have he1 := pw_cell_below hb1 he
 generalize w.alloc (.cells #[.map none, .string ⟨#[]⟩, .bool false] 125) = w1 at *
 go_wp2_with fail
 refine (newHV_call m key false w1 (hS.out.calm hb1) hk hz).mono ?_
 unfold HV
 rintro e w2 ⟨rfl, hb⟩
 have h := heap_below hb hu
 have hF := Aside0.mk (below_then hb1 hb1.size hb)
 generalize hub : w.heap.size = ub at *
 have e0 := cell_at h 0; have e1 := cell_at h 1; have e2 := cell_at h 2
 have d0 := free_of h 0; have d1 := free_of h 1; have d2 := free_of h 2
 simp at e0 e1 e2
 clear h hu hb hb1
 go_wp2
 (try simp only [Exit.inBlock, Exit.then])
 refine bodyPost_ret (v := HV m key false) ?_ rfl ⟨rfl, ?_⟩
 ·simp only [results, HV]; go_simp
 ·subst hub
  exact ((hF.out.setCell (p := ⟨w.heap.size, 0, none⟩) (Nat.le_refl _) _).setCell (p := ⟨w.heap.size, 1, none⟩) (Nat.le_refl _) _).setCell (p := ⟨w.heap.size, 2, none⟩) (Nat.le_refl _) _
set_option maxHeartbeats 400000 in
set_option maxRecDepth 100000 in
theorem addHdr_call (eb m : Nat) (key : ByteArray) (w : World) (hS : Spc w) (hk : noSp key) (hz : key.size ≤ 1099511627776) (he : w.cell? ⟨eb, 4, none⟩ = some (.map (some m))) :
 Calls Tryz.prog 77 #[.pointer (some ⟨eb, 0, none⟩), .string key] w fun e w' => e = .returned (HV m key true) ∧ Below w.heap.size w w' := by
 replace hS := Aside0.mk hS
 have hlt := World.block_lt_of_cell? w _ he
 go_enter Tryz.func77, Tryz.ntmps77
 go_wp2_with fail
 have hu := heap_new w (.cells #[.map none, .string ⟨#[]⟩, .bool false] 125)
 have hb1 := below_alloc (Below.refl w.heap.size w) (.cells #[.map none, .string ⟨#[]⟩, .bool false] 125)
 have he1 := pw_cell_below hb1 he
 generalize w.alloc (.cells #[.map none, .string ⟨#[]⟩, .bool false] 125) = w1 at *
 go_wp2_with fail
 refine (newHV_call m key true w1 (hS.out.calm hb1) hk hz).mono ?_
 unfold HV
 rintro e w2 ⟨rfl, hb⟩
 have h := heap_below hb hu
 have hF := Aside0.mk (below_then hb1 hb1.size hb)
 generalize hub : w.heap.size = ub at *
 have e0 := cell_at h 0; have e1 := cell_at h 1; have e2 := cell_at h 2
 have d0 := free_of h 0; have d1 := free_of h 1; have d2 := free_of h 2
 simp at e0 e1 e2
 clear h hu hb hb1
 go_wp2
 (try simp only [Exit.inBlock, Exit.then])
 refine bodyPost_ret (v := HV m key true) ?_ rfl ⟨rfl, ?_⟩
 ·simp only [results, HV]; go_simp
 ·subst hub
  exact ((hF.out.setCell (p := ⟨w.heap.size, 0, none⟩) (Nat.le_refl _) _).setCell (p := ⟨w.heap.size, 1, none⟩) (Nat.le_refl _) _).setCell (p := ⟨w.heap.size, 2, none⟩) (Nat.le_refl _) _
def HS (m : Nat) (pre : ByteArray) : Value := .agg #[.map (some m), .string pre]
set_option maxHeartbeats 400000 in
set_option maxRecDepth 100000 in
theorem headers_call (eb m : Nat) (pre : ByteArray) (w : World) (hS : Spc w) (hk : noSp pre) (hz : pre.size ≤ 1099511627776) (he : w.cell? ⟨eb, 4, none⟩ = some (.map (some m))) :
 Calls Tryz.prog 78 #[.pointer (some ⟨eb, 0, none⟩), .string pre] w fun e w' => e = .returned (HS m pre) ∧ Below w.heap.size w w' := by
 replace hS := Aside0.mk hS
 have hlt := World.block_lt_of_cell? w _ he
 go_enter Tryz.func78, Tryz.ntmps78
 go_wp2_with fail
 have hu := heap_new w (.cells #[.map none, .string ⟨#[]⟩] 128)
 have hb1 := below_alloc (Below.refl w.heap.size w) (.cells #[.map none, .string ⟨#[]⟩] 128)
 have he1 := pw_cell_below hb1 he
 generalize w.alloc (.cells #[.map none, .string ⟨#[]⟩] 128) = w1 at *
 replace hb1 := Aside0.mk hb1
 have hS1 := Aside0.mk (hS.out.calm hb1.out)
 have hne : ¬ w.heap.size = eb := by have : eb < w.heap.size := hlt; omega
 generalize hub : w.heap.size = ub at *
 replace hu := Aside0.mk hu
 go_region_held3 (fun w' => w'.cell? ⟨eb, 4, none⟩ = some (.map (some m))) (simp [*, World.cell?_alloc_some, World.cell?_setCell_far]) ((go_at_call 123; refine (trim_call pre w1.drew hS1.out hk hz).mono ?_; rintro e w2 ⟨rfl, hb⟩; have he2 := pw_cell_below (w := w1.drew) hb he1; have h := heap_below hb hu.out; have e0 := cell_at h 0; have e1 := cell_at h 1; have d0 := free_of h 0; have d1 := free_of h 1; simp at e0 e1; replace h := Aside0.mk h; replace hb := Aside0.mk hb))
 go_wp2
 (try simp only [Exit.inBlock, Exit.then])
 refine bodyPost_ret (v := HS m pre) ?_ rfl ⟨rfl, ?_⟩
 ·simp only [results, HS]; go_simp
 ·subst hub
  have hF := below_then hb1.out hb1.out.size (undrew hb.out)
  exact (hF.setCell (p := ⟨w.heap.size, 0, none⟩) (Nat.le_refl _) _).setCell (p := ⟨w.heap.size, 1, none⟩) (Nat.le_refl _) _
theorem noSp_app {a b : ByteArray} (ha : noSp a) (hb : noSp b) : noSp (a ++ b) := by
 intro i hi
 rw [ByteArray.size_append] at hi
 have hr := rd_bytesOf (a ++ b) (i : Int)
 have e : bytesOf (a ++ b) = bytesOf a ++ bytesOf b := by simp [bytesOf, ByteArray.append_eq]
 rw [← hr, e]
 unfold rd
 rw [List.getD_eq_getElem?_getD]
 by_cases h : i < a.size
 ·rw [List.getElem?_append_left (by rw [bytesOf_length]; simpa using h)]
  have := ha i h
  rw [← rd_bytesOf] at this
  unfold rd at this
  rwa [List.getD_eq_getElem?_getD] at this
 ·rw [List.getElem?_append_right (by rw [bytesOf_length]; simp; omega), bytesOf_length]
  have := hb (i - a.size) (by omega)
  rw [← rd_bytesOf] at this
  unfold rd at this
  rw [List.getD_eq_getElem?_getD] at this
  simpa using this
set_option maxHeartbeats 1000000 in
set_option maxRecDepth 100000 in
theorem hsNew_call (m : Nat) (pre key : ByteArray) (add : Bool) (w : World) (hS : Spc w) (hp : noSp pre) (hk : noSp key) (hz : pre.size + key.size ≤ 1099511627776) :
 Calls Tryz.prog 124 #[HS m pre, .string key, .bool add] w fun e w' => e = .returned (HV m (pre ++ key) add) ∧ Below w.heap.size w w' := by
 replace hS := Aside0.mk hS
 unfold HS
 go_enter Tryz.func124, Tryz.ntmps124
 go_wp2_with fail
 have hu0 := heap_old (heap_new w (.cells #[.map (some m), .string pre] 128)) (.cells #[.map none, .string ⟨#[]⟩, .bool false] 125)
 have hu := heap_new (w.alloc (.cells #[.map (some m), .string pre] 128)) (.cells #[.map none, .string ⟨#[]⟩, .bool false] 125)
 rw [World.size_alloc] at hu
 have hb1 := below_alloc (below_alloc (Below.refl w.heap.size w) (.cells #[.map (some m), .string pre] 128)) (.cells #[.map none, .string ⟨#[]⟩, .bool false] 125)
 generalize (w.alloc (.cells #[.map (some m), .string pre] 128)).alloc (.cells #[.map none, .string ⟨#[]⟩, .bool false] 125) = w1 at *
 replace hb1 := Aside0.mk hb1
 have hS1 := Aside0.mk (hS.out.calm hb1.out)
 have hle : w.heap.size ≤ w.heap.size + 1 := Nat.le_succ _
 have hne : ¬ w.heap.size + 1 = w.heap.size := by omega
 generalize hub : w.heap.size + 1 = ub at *
 generalize hub0 : w.heap.size = u0 at *
 have b0 := cell_at hu0 0; have b1 := cell_at hu0 1
 simp at b0 b1
 replace hu := Aside0.mk hu; replace hu0 := Aside0.mk hu0; replace hub := Aside0.mk hub; replace hub0 := Aside0.mk hub0
 have hna := Aside0.mk (noSp_app hp hk)
 have hnz : Aside0 ((pre ++ key).size ≤ 1099511627776) := .mk (by rw [ByteArray.size_append]; exact hz)
 have hkz : key.size ≤ 1099511627776 := by omega
 have hsum : (9223372036854775807 < pre.size + key.size) = False := by simp; omega
 have hsum2 : (pre.size + key.size > 9223372036854775807) = False := hsum
 have hnew := fun (w : World) (hS : Spc w) => newHV_call m (pre ++ key) add w hS hna.out hnz.out
 unfold HV at hnew
 replace hnew := Aside0.mk hnew
 go_region_held3 (fun w' => w'.cell? ⟨u0, 0, none⟩ = some (.map (some m)) ∧ w'.cell? ⟨u0, 1, none⟩ = some (.string pre)) (simp [*, World.cell?_alloc_some, World.cell?_setCell_far]) (first | ((go_at_call 123; refine (trim_call key w1.drew hS1.out hk hkz).mono ?_; rintro e w2 ⟨rfl, hb⟩; replace hb := undrew hb; have hv0 := heap_below hb hu0.out; have h := heap_below hb hu.out; have c0 := cell_at hv0 0; have c1 := cell_at hv0 1; simp at c0 c1; replace h := Aside0.mk h; replace hv0 := Aside0.mk hv0; replace hb := Aside0.mk hb)) | ((go_at_call 122; refine (hnew.out w2 (hS1.out.calm hb.out)).mono ?_; rintro e w3 ⟨rfl, hb3⟩; have h3 := heap_below hb3 h.out; have h30 := heap_below hb3 hv0.out; have e0 := cell_at h3 0; have e1 := cell_at h3 1; have e2 := cell_at h3 2; have d0 := free_of h3 0; have d1 := free_of h3 1; have d2 := free_of h3 2; have f0 := cell_at h30 0; have f1 := cell_at h30 1; simp at e0 e1 e2 f0 f1; replace h3 := Aside0.mk h3; replace h30 := Aside0.mk h30; replace hb3 := Aside0.mk hb3)))
 go_wp2
 (try simp only [Exit.inBlock, Exit.then])
 refine bodyPost_ret (v := HV m (pre ++ key) add) ?_ rfl ⟨rfl, ?_⟩
 ·simp only [results, HV]; go_simp
 ·have hF := below_then hb1.out (by have := hb1.out.size; have := hub0.out; omega) (below_then hb.out hb.out.size hb3.out)
  rw [hub0.out]
  exact ((hF.setCell (p := ⟨ub, 0, none⟩) hle _).setCell (p := ⟨ub, 1, none⟩) hle _).setCell (p := ⟨ub, 2, none⟩) hle _
set_option maxHeartbeats 400000 in
set_option maxRecDepth 100000 in
theorem hsSet_call (m : Nat) (pre key : ByteArray) (w : World) (hS : Spc w) (hp : noSp pre) (hk : noSp key) (hz : pre.size + key.size ≤ 1099511627776) :
 Calls Tryz.prog 79 #[HS m pre, .string key] w fun e w' => e = .returned (HV m (pre ++ key) false) ∧ Below w.heap.size w w' := by
 replace hS := Aside0.mk hS
 unfold HS
 go_enter Tryz.func79, Tryz.ntmps79
 go_wp2_with fail
 have hu := heap_new (w.alloc (.cells #[.map (some m), .string pre] 128)) (.cells #[.map none, .string ⟨#[]⟩, .bool false] 125)
 rw [World.size_alloc] at hu
 have hb1 := below_alloc (below_alloc (Below.refl w.heap.size w) (.cells #[.map (some m), .string pre] 128)) (.cells #[.map none, .string ⟨#[]⟩, .bool false] 125)
 generalize (w.alloc (.cells #[.map (some m), .string pre] 128)).alloc (.cells #[.map none, .string ⟨#[]⟩, .bool false] 125) = w1 at *
 have hc := hsNew_call m pre key false w1 (hS.out.calm hb1) hp hk hz
 unfold HS HV at hc
 refine hc.mono ?_
 rintro e w2 ⟨rfl, hb⟩
 have h := heap_below hb hu
 have hF := Aside0.mk (below_then hb1 hb1.size hb)
 have hle : w.heap.size ≤ w.heap.size + 1 := Nat.le_succ _
 generalize hub : w.heap.size + 1 = ub at *
 have e0 := cell_at h 0; have e1 := cell_at h 1; have e2 := cell_at h 2
 have d0 := free_of h 0; have d1 := free_of h 1; have d2 := free_of h 2
 simp at e0 e1 e2
 clear h hu hb hb1 hc
 go_wp2
 (try simp only [Exit.inBlock, Exit.then])
 refine bodyPost_ret (v := HV m (pre ++ key) false) ?_ rfl ⟨rfl, ?_⟩
 ·simp only [results, HV]; go_simp
 ·exact ((hF.out.setCell (p := ⟨ub, 0, none⟩) hle _).setCell (p := ⟨ub, 1, none⟩) hle _).setCell (p := ⟨ub, 2, none⟩) hle _
set_option maxHeartbeats 400000 in
set_option maxRecDepth 100000 in
theorem hsAdd_call (m : Nat) (pre key : ByteArray) (w : World) (hS : Spc w) (hp : noSp pre) (hk : noSp key) (hz : pre.size + key.size ≤ 1099511627776) :
 Calls Tryz.prog 80 #[HS m pre, .string key] w fun e w' => e = .returned (HV m (pre ++ key) true) ∧ Below w.heap.size w w' := by
 replace hS := Aside0.mk hS
 unfold HS
 go_enter Tryz.func80, Tryz.ntmps80
 go_wp2_with fail
 have hu := heap_new (w.alloc (.cells #[.map (some m), .string pre] 128)) (.cells #[.map none, .string ⟨#[]⟩, .bool false] 125)
 rw [World.size_alloc] at hu
 have hb1 := below_alloc (below_alloc (Below.refl w.heap.size w) (.cells #[.map (some m), .string pre] 128)) (.cells #[.map none, .string ⟨#[]⟩, .bool false] 125)
 generalize (w.alloc (.cells #[.map (some m), .string pre] 128)).alloc (.cells #[.map none, .string ⟨#[]⟩, .bool false] 125) = w1 at *
 have hc := hsNew_call m pre key true w1 (hS.out.calm hb1) hp hk hz
 unfold HS HV at hc
 refine hc.mono ?_
 rintro e w2 ⟨rfl, hb⟩
 have h := heap_below hb hu
 have hF := Aside0.mk (below_then hb1 hb1.size hb)
 have hle : w.heap.size ≤ w.heap.size + 1 := Nat.le_succ _
 generalize hub : w.heap.size + 1 = ub at *
 have e0 := cell_at h 0; have e1 := cell_at h 1; have e2 := cell_at h 2
 have d0 := free_of h 0; have d1 := free_of h 1; have d2 := free_of h 2
 simp at e0 e1 e2
 clear h hu hb hb1 hc
 go_wp2
 (try simp only [Exit.inBlock, Exit.then])
 refine bodyPost_ret (v := HV m (pre ++ key) true) ?_ rfl ⟨rfl, ?_⟩
 ·simp only [results, HV]; go_simp
 ·exact ((hF.out.setCell (p := ⟨ub, 0, none⟩) hle _).setCell (p := ⟨ub, 1, none⟩) hle _).setCell (p := ⟨ub, 2, none⟩) hle _
end HH
end Go.Proofs.YtclmjmfcggkpaaaGreatDoor
