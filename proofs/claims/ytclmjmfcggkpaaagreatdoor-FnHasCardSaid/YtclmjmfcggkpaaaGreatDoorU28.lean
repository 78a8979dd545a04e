import Derived.Test.YtclmjmfcggkpaaaGreatDoorU25
import Derived.Test.YtclmjmfcggkpaaaGreatDoorU27
import Derived.Deep.RegionHeld3
set_option linter.unusedVariables false
set_option linter.unusedSimpArgs false
namespace Go.Proofs.YtclmjmfcggkpaaaGreatDoor
open Go.RowKit Go.Proofs.YtclmjmfcggkpaaaGreatDoorW.PrintWords Go.Proofs.YtclmjmfcggkpaaaGreatDoorW.PrintLast Go.Proofs.YtclmjmfcggkpaaaGreatDoorW.PrintMore
open PX
namespace HH
open H
/-! ### SetQuery, AddQuery, impl.put: queries -/
set_option maxHeartbeats 400000 in
set_option maxRecDepth 100000 in
theorem newQV_call (key : ByteArray) (m : Nat) (add : Bool) (w : World) :
 Calls Tryz.prog 114 #[.map (some m), .string key, .bool add] w fun e w' => e = .returned (QV m key add) ∧ Below w.heap.size w w' := by
 go_enter Tryz.func114, Tryz.ntmps114
 go_wp2_with fail
 (try simp only [Exit.inBlock, Exit.then])
 refine bodyPost_ret (v := QV m key add) ?_ rfl ⟨rfl, ?_⟩
 ·simp only [results, QV]; go_simp
 ·exact below_alloc (Below.refl _ _) _
set_option maxHeartbeats 400000 in
set_option maxRecDepth 100000 in
theorem setQ_call (eb m : Nat) (key : ByteArray) (w : World) (he : w.cell? ⟨eb, 3, none⟩ = some (.map (some m))) :
 Calls Tryz.prog 73 #[.pointer (some ⟨eb, 0, none⟩), .string key] w fun e w' => e = .returned (QV m key false) ∧ Below w.heap.size w w' := by
 have hlt := World.block_lt_of_cell? w _ he
 go_enter Tryz.func73, Tryz.ntmps73
 go_wp2_with fail
 have hu := heap_new w (.cells #[.map none, .string ⟨#[]⟩, .bool false] 121)
 have hb1 := below_alloc (Below.refl w.heap.size w) (.cells #[.map none, .string ⟨#[]⟩, .bool false] 121)
 have he1 := pw_cell_below hb1 he
 generalize w.alloc (.cells #[.map none, .string ⟨#[]⟩, .bool false] 121) = w1 at *
 go_wp2_with fail
 refine (newQV_call key m false w1).mono ?_
 unfold QV
 rintro e w2 ⟨rfl, hb⟩
 have h := heap_below hb hu
 have hF := Aside0.mk (below_then hb1 hb1.size hb)
 generalize hub : w.heap.size = ub at *
 have e0 := cell_at h 0; have e1 := cell_at h 1; have e2 := cell_at h 2
 have d0 := free_of h 0; have d1 := free_of h 1; have d2 := free_of h 2
 simp at e0 e1 e2
 clear h hu hb hb1
 go_wp2
 (try simp only [Exit.inBlock, Exit.then])
 refine bodyPost_ret (v := QV m key false) ?_ rfl ⟨rfl, ?_⟩
 ·simp only [results, QV]; go_simp
 ·subst hub
  exact ((hF.out.setCell (p := ⟨w.heap.size, 0, none⟩) (Nat.le_refl _) _).setCell (p := ⟨w.heap.size, 1, none⟩) (Nat.le_refl _) _).setCell (p := ⟨w.heap.size, 2, none⟩) (Nat.le_refl _) _
set_option maxHeartbeats 400000 in
set_option maxRecDepth 100000 in
theorem addQ_call (eb m : Nat) (key : ByteArray) (w : World) (he : w.cell? ⟨eb, 3, none⟩ = some (.map (some m))) :
 Calls Tryz.prog 74 #[.pointer (some ⟨eb, 0, none⟩), .string key] w fun e w' => e = .returned (QV m key true) ∧ Below w.heap.size w w' := by
 have hlt := World.block_lt_of_cell? w _ he
 go_enter Tryz.func74, Tryz.ntmps74
 go_wp2_with fail
 have hu := heap_new w (.cells #[.map none, .string ⟨#[]⟩, .bool false] 121)
 have hb1 := below_alloc (Below.refl w.heap.size w) (.cells #[.map none, .string ⟨#[]⟩, .bool false] 121)
 have he1 := pw_cell_below hb1 he
 generalize w.alloc (.cells #[.map none, .string ⟨#[]⟩, .bool false] 121) = w1 at *
 go_wp2_with fail
 refine (newQV_call key m true w1).mono ?_
 unfold QV
 rintro e w2 ⟨rfl, hb⟩
 have h := heap_below hb hu
 have hF := Aside0.mk (below_then hb1 hb1.size hb)
 generalize hub : w.heap.size = ub at *
 have e0 := cell_at h 0; have e1 := cell_at h 1; have e2 := cell_at h 2
 have d0 := free_of h 0; have d1 := free_of h 1; have d2 := free_of h 2
 simp at e0 e1 e2
 clear h hu hb hb1
 go_wp2
 (try simp only [Exit.inBlock, Exit.then])
 refine bodyPost_ret (v := QV m key true) ?_ rfl ⟨rfl, ?_⟩
 ·simp only [results, QV]; go_simp
 ·subst hub
  exact ((hF.out.setCell (p := ⟨w.heap.size, 0, none⟩) (Nat.le_refl _) _).setCell (p := ⟨w.heap.size, 1, none⟩) (Nat.le_refl _) _).setCell (p := ⟨w.heap.size, 2, none⟩) (Nat.le_refl _) _
set_option maxHeartbeats 1000000 in
set_option maxRecDepth 100000 in
theorem putQ1 {B : Nat} {X : Nat → Prop} {m n eb : Nat} {T : ByteArray → Option (List ByteArray)} {w : World} (H : MapIn B X m n T w) (hT : Pow w) (he : w.cell? ⟨eb, 3, none⟩ = some (.map (some m)))
 (pre key : ByteArray) (kind : Int) (hkd : 0 ≤ kind ∧ kind ≤ 6) (text : ByteArray) (num : Int) (hn : -9223372036854775808 ≤ num ∧ num ≤ 9223372036854775807) (hs : text.size ≤ 2147483647) :
 Calls Tryz.prog 46 #[.pointer (some ⟨eb, 0, none⟩), FV 1 pre key kind text num] w (PutE B X m n (putT T (key) (txt kind text num) false) w) := by
 replace H := Aside0.mk H
 replace hT := Aside0.mk hT
 replace hkd := Aside0.mk hkd
 replace hn := Aside0.mk hn
 unfold FV
 go_enter Tryz.func46, Tryz.ntmps46
 go_wp2_with fail
 have hu := heap_new w (.cells #[.int .i64 1, .string pre, .string key, .int .i64 kind, .string text, .int .i64 num] 48)
 have hb1 := below_alloc (Below.refl w.heap.size w) (.cells #[.int .i64 1, .string pre, .string key, .int .i64 kind, .string text, .int .i64 num] 48)
 have H1 := Aside0.mk (H.out.also hb1 (Nat.le_refl _) (by simp))
 have he1 := pw_cell_below hb1 he
 generalize w.alloc (.cells #[.int .i64 1, .string pre, .string key, .int .i64 kind, .string text, .int .i64 num] 48) = w1 at *
 replace hb1 := Aside0.mk hb1
 have hT1 : Aside0 (Pow w1) := .mk (hT.out.below hb1.out)
 have hlow := Aside0.mk H.out.low
 generalize hub : w.heap.size = ub at *
 have c0 := cell_at hu 0; have c1 := cell_at hu 1; have c2 := cell_at hu 2; have c3 := cell_at hu 3; have c4 := cell_at hu 4; have c5 := cell_at hu 5
 simp at c0 c1 c2 c3 c4 c5
 replace hu := Aside0.mk hu
 have hin := fun (w : World) (H : MapIn B (fun k => X k ∨ k = ub) m n T w) (hT : Pow w) => inQ_call H hT (key) false kind hkd.out text num hn.out hs 1 pre key
 unfold QV FV at hin
 replace hin := Aside0.mk hin
 go_region_held3 (fun w' => w'.cell? ⟨ub, 0, none⟩ = some (.int .i64 1) ∧ w'.cell? ⟨ub, 1, none⟩ = some (.string pre) ∧ w'.cell? ⟨ub, 2, none⟩ = some (.string key) ∧ w'.cell? ⟨ub, 3, none⟩ = some (.int .i64 kind) ∧ w'.cell? ⟨ub, 4, none⟩ = some (.string text) ∧ w'.cell? ⟨ub, 5, none⟩ = some (.int .i64 num)) (simp [*, World.cell?_alloc_some, World.cell?_setCell_far]) (first | ((go_at_call 73; refine (setQ_call eb m key w1.drew he1).mono ?_; unfold QV; rintro e w2 ⟨rfl, hb⟩; replace hb := undrew hb; have h := heap_below hb hu.out; have e0 := cell_at h 0; have e1 := cell_at h 1; have e2 := cell_at h 2; have e3 := cell_at h 3; have e4 := cell_at h 4; have e5 := cell_at h 5; simp at e0 e1 e2 e3 e4 e5; replace h := Aside0.mk h; replace hb := Aside0.mk hb)) | ((go_at_call 72; refine (hin.out w2 (H1.out.calm hb.out) (hT1.out.below hb.out)).mono ?_; rintro e w4 ⟨rfl, h1, h2⟩; have h4 := Fr.heap h2 h.out (fun hs => hs.2 (.inr rfl)); have g0 := cell_at h4 0; have g1 := cell_at h4 1; have g2 := cell_at h4 2; have g3 := cell_at h4 3; have g4 := cell_at h4 4; have g5 := cell_at h4 5; simp at g0 g1 g2 g3 g4 g5)))
 go_wp2
 go_ret
 subst hub
 exact ⟨rfl, (PutP.from (below_then hb1.out hb1.out.size hb.out) ⟨rfl, h1, h2⟩ (fun k _ hk => .inl hk) hlow.out).2⟩
set_option maxHeartbeats 1000000 in
set_option maxRecDepth 100000 in
theorem putQ2 {B : Nat} {X : Nat → Prop} {m n eb : Nat} {T : ByteArray → Option (List ByteArray)} {w : World} (H : MapIn B X m n T w) (hT : Pow w) (he : w.cell? ⟨eb, 3, none⟩ = some (.map (some m)))
 (pre key : ByteArray) (kind : Int) (hkd : 0 ≤ kind ∧ kind ≤ 6) (text : ByteArray) (num : Int) (hn : -9223372036854775808 ≤ num ∧ num ≤ 9223372036854775807) (hs : text.size ≤ 2147483647) :
 Calls Tryz.prog 46 #[.pointer (some ⟨eb, 0, none⟩), FV 2 pre key kind text num] w (PutE B X m n (putT T (key) (txt kind text num) true) w) := by
 replace H := Aside0.mk H
 replace hT := Aside0.mk hT
 replace hkd := Aside0.mk hkd
 replace hn := Aside0.mk hn
 unfold FV
 go_enter Tryz.func46, Tryz.ntmps46
 go_wp2_with fail
 have hu := heap_new w (.cells #[.int .i64 2, .string pre, .string key, .int .i64 kind, .string text, .int .i64 num] 48)
 have hb1 := below_alloc (Below.refl w.heap.size w) (.cells #[.int .i64 2, .string pre, .string key, .int .i64 kind, .string text, .int .i64 num] 48)
 have H1 := Aside0.mk (H.out.also hb1 (Nat.le_refl _) (by simp))
 have he1 := pw_cell_below hb1 he
 generalize w.alloc (.cells #[.int .i64 2, .string pre, .string key, .int .i64 kind, .string text, .int .i64 num] 48) = w1 at *
 replace hb1 := Aside0.mk hb1
 have hT1 : Aside0 (Pow w1) := .mk (hT.out.below hb1.out)
 have hlow := Aside0.mk H.out.low
 generalize hub : w.heap.size = ub at *
 have c0 := cell_at hu 0; have c1 := cell_at hu 1; have c2 := cell_at hu 2; have c3 := cell_at hu 3; have c4 := cell_at hu 4; have c5 := cell_at hu 5
 simp at c0 c1 c2 c3 c4 c5
 replace hu := Aside0.mk hu
 have hin := fun (w : World) (H : MapIn B (fun k => X k ∨ k = ub) m n T w) (hT : Pow w) => inQ_call H hT (key) true kind hkd.out text num hn.out hs 2 pre key
 unfold QV FV at hin
 replace hin := Aside0.mk hin
 go_region_held3 (fun w' => w'.cell? ⟨ub, 0, none⟩ = some (.int .i64 2) ∧ w'.cell? ⟨ub, 1, none⟩ = some (.string pre) ∧ w'.cell? ⟨ub, 2, none⟩ = some (.string key) ∧ w'.cell? ⟨ub, 3, none⟩ = some (.int .i64 kind) ∧ w'.cell? ⟨ub, 4, none⟩ = some (.string text) ∧ w'.cell? ⟨ub, 5, none⟩ = some (.int .i64 num)) (simp [*, World.cell?_alloc_some, World.cell?_setCell_far]) (first | ((go_at_call 74; refine (addQ_call eb m key w1.drew he1).mono ?_; unfold QV; rintro e w2 ⟨rfl, hb⟩; replace hb := undrew hb; have h := heap_below hb hu.out; have e0 := cell_at h 0; have e1 := cell_at h 1; have e2 := cell_at h 2; have e3 := cell_at h 3; have e4 := cell_at h 4; have e5 := cell_at h 5; simp at e0 e1 e2 e3 e4 e5; replace h := Aside0.mk h; replace hb := Aside0.mk hb)) | ((go_at_call 72; refine (hin.out w2 (H1.out.calm hb.out) (hT1.out.below hb.out)).mono ?_; rintro e w4 ⟨rfl, h1, h2⟩; have h4 := Fr.heap h2 h.out (fun hs => hs.2 (.inr rfl)); have g0 := cell_at h4 0; have g1 := cell_at h4 1; have g2 := cell_at h4 2; have g3 := cell_at h4 3; have g4 := cell_at h4 4; have g5 := cell_at h4 5; simp at g0 g1 g2 g3 g4 g5)))
 go_wp2
 go_ret
 subst hub
 exact ⟨rfl, (PutP.from (below_then hb1.out hb1.out.size hb.out) ⟨rfl, h1, h2⟩ (fun k _ hk => .inl hk) hlow.out).2⟩
theorem put_q {B : Nat} {X : Nat → Prop} {m n eb : Nat} {T : ByteArray → Option (List ByteArray)} {w : World} (H : MapIn B X m n T w) (hT : Pow w) (he : w.cell? ⟨eb, 3, none⟩ = some (.map (some m)))
 (wh : Int) (hw : wh = 1 ∨ wh = 2) (pre key : ByteArray) (kind : Int) (hkd : 0 ≤ kind ∧ kind ≤ 6) (text : ByteArray) (num : Int) (hn : -9223372036854775808 ≤ num ∧ num ≤ 9223372036854775807) (hs : text.size ≤ 2147483647) :
 Calls Tryz.prog 46 #[.pointer (some ⟨eb, 0, none⟩), FV wh pre key kind text num] w (PutE B X m n (putT T key (txt kind text num) (decide (wh = 2))) w) := by
 rcases hw with h | h
 ·subst h; exact putQ1 H hT he pre key kind hkd text num hn hs
 ·subst h; exact putQ2 H hT he pre key kind hkd text num hn hs
end HH
end Go.Proofs.YtclmjmfcggkpaaaGreatDoor
