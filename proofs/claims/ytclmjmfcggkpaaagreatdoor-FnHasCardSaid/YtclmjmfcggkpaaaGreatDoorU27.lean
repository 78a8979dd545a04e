import Derived.Test.YtclmjmfcggkpaaaGreatDoorU26
import Derived.Test.YtclmjmfcggkpaaaGreatDoorU24
set_option linter.unusedVariables false
set_option linter.unusedSimpArgs false
namespace Go.Proofs.YtclmjmfcggkpaaaGreatDoor
open Go.RowKit Go.Proofs.YtclmjmfcggkpaaaGreatDoorW.PrintWords Go.Proofs.YtclmjmfcggkpaaaGreatDoorW.PrintLast Go.Proofs.YtclmjmfcggkpaaaGreatDoorW.PrintMore
open PX
namespace HH
open H
/-! ### impl.put: headers -/
set_option maxHeartbeats 1000000 in
set_option maxRecDepth 100000 in
theorem putH3 {B : Nat} {X : Nat → Prop} {m n eb : Nat} {T : ByteArray → Option (List ByteArray)} {w : World} (H : MapIn B X m n T w) (hT : Pow w) (hS : Spc w) (he : w.cell? ⟨eb, 4, none⟩ = some (.map (some m)))
 (pre key : ByteArray) (hk : noSp key) (hz : key.size ≤ 1099511627776) (kind : Int) (hkd : 0 ≤ kind ∧ kind ≤ 6) (text : ByteArray) (num : Int) (hn : -9223372036854775808 ≤ num ∧ num ≤ 9223372036854775807) (hs : text.size ≤ 2147483647) :
 Calls Tryz.prog 46 #[.pointer (some ⟨eb, 0, none⟩), FV 3 pre key kind text num] w (PutE B X m n (putT T (key) (txt kind text num) false) w) := by
 replace H := Aside0.mk H
 replace hT := Aside0.mk hT
 replace hS := Aside0.mk hS
 replace hkd := Aside0.mk hkd
 replace hn := Aside0.mk hn
 replace hk := Aside0.mk hk
 replace hz := Aside0.mk hz
 unfold FV
 go_enter Tryz.func46, Tryz.ntmps46
 go_wp2_with fail
 have hu := heap_new w (.cells #[.int .i64 3, .string pre, .string key, .int .i64 kind, .string text, .int .i64 num] 48)
 have hb1 := below_alloc (Below.refl w.heap.size w) (.cells #[.int .i64 3, .string pre, .string key, .int .i64 kind, .string text, .int .i64 num] 48)
 have H1 := Aside0.mk (H.out.also hb1 (Nat.le_refl _) (by simp))
 have he1 := pw_cell_below hb1 he
 generalize w.alloc (.cells #[.int .i64 3, .string pre, .string key, .int .i64 kind, .string text, .int .i64 num] 48) = w1 at *
 replace hb1 := Aside0.mk hb1
 have hS1 : Aside0 (Spc w1) := .mk (hS.out.calm hb1.out)
 have hS2 : Aside0 (Spc w1.drew) := .mk (hS.out.calm (below_drew hb1.out))
 have hT1 : Aside0 (Pow w1) := .mk (hT.out.below hb1.out)
 have hlow := Aside0.mk H.out.low
 generalize hub : w.heap.size = ub at *
 have c0 := cell_at hu 0; have c1 := cell_at hu 1; have c2 := cell_at hu 2; have c3 := cell_at hu 3; have c4 := cell_at hu 4; have c5 := cell_at hu 5
 simp at c0 c1 c2 c3 c4 c5
 replace hu := Aside0.mk hu
 have hin := fun (w : World) (H : MapIn B (fun k => X k ∨ k = ub) m n T w) (hT : Pow w) => inHdr_call H hT (key) false kind hkd.out text num hn.out hs 3 pre key
 unfold HV FV at hin
 replace hin := Aside0.mk hin
 go_region_held3 (fun w' => w'.cell? ⟨ub, 0, none⟩ = some (.int .i64 3) ∧ w'.cell? ⟨ub, 1, none⟩ = some (.string pre) ∧ w'.cell? ⟨ub, 2, none⟩ = some (.string key) ∧ w'.cell? ⟨ub, 3, none⟩ = some (.int .i64 kind) ∧ w'.cell? ⟨ub, 4, none⟩ = some (.string text) ∧ w'.cell? ⟨ub, 5, none⟩ = some (.int .i64 num)) (simp [*, World.cell?_alloc_some, World.cell?_setCell_far]) (first | ((go_at_call 76; refine (setHdr_call eb m key w1.drew hS2.out hk.out hz.out he1).mono ?_; unfold HV; rintro e w2 ⟨rfl, hb⟩; replace hb := undrew hb; have h := heap_below hb hu.out; have e0 := cell_at h 0; have e1 := cell_at h 1; have e2 := cell_at h 2; have e3 := cell_at h 3; have e4 := cell_at h 4; have e5 := cell_at h 5; simp at e0 e1 e2 e3 e4 e5; replace h := Aside0.mk h; replace hb := Aside0.mk hb)) | ((go_at_call 75; refine (hin.out w2 (H1.out.calm hb.out) (hT1.out.below hb.out)).mono ?_; rintro e w4 ⟨rfl, h1, h2⟩; have h4 := Fr.heap h2 h.out (fun hs => hs.2 (.inr rfl)); have g0 := cell_at h4 0; have g1 := cell_at h4 1; have g2 := cell_at h4 2; have g3 := cell_at h4 3; have g4 := cell_at h4 4; have g5 := cell_at h4 5; simp at g0 g1 g2 g3 g4 g5)))
 go_wp2
 go_ret
 subst hub
 exact ⟨rfl, (PutP.from (below_then hb1.out hb1.out.size hb.out) ⟨rfl, h1, h2⟩ (fun k _ hk => .inl hk) hlow.out).2⟩
set_option maxHeartbeats 1000000 in
set_option maxRecDepth 100000 in
theorem putH4 {B : Nat} {X : Nat → Prop} {m n eb : Nat} {T : ByteArray → Option (List ByteArray)} {w : World} (H : MapIn B X m n T w) (hT : Pow w) (hS : Spc w) (he : w.cell? ⟨eb, 4, none⟩ = some (.map (some m)))
 (pre key : ByteArray) (hk : noSp key) (hz : key.size ≤ 1099511627776) (kind : Int) (hkd : 0 ≤ kind ∧ kind ≤ 6) (text : ByteArray) (num : Int) (hn : -9223372036854775808 ≤ num ∧ num ≤ 9223372036854775807) (hs : text.size ≤ 2147483647) :
 Calls Tryz.prog 46 #[.pointer (some ⟨eb, 0, none⟩), FV 4 pre key kind text num] w (PutE B X m n (putT T (key) (txt kind text num) true) w) := by
 replace H := Aside0.mk H
 replace hT := Aside0.mk hT
 replace hS := Aside0.mk hS
 replace hkd := Aside0.mk hkd
 replace hn := Aside0.mk hn
 replace hk := Aside0.mk hk
 replace hz := Aside0.mk hz
 unfold FV
 go_enter Tryz.func46, Tryz.ntmps46
 go_wp2_with fail
 have hu := heap_new w (.cells #[.int .i64 4, .string pre, .string key, .int .i64 kind, .string text, .int .i64 num] 48)
 have hb1 := below_alloc (Below.refl w.heap.size w) (.cells #[.int .i64 4, .string pre, .string key, .int .i64 kind, .string text, .int .i64 num] 48)
 have H1 := Aside0.mk (H.out.also hb1 (Nat.le_refl _) (by simp))
 have he1 := pw_cell_below hb1 he
 generalize w.alloc (.cells #[.int .i64 4, .string pre, .string key, .int .i64 kind, .string text, .int .i64 num] 48) = w1 at *
 replace hb1 := Aside0.mk hb1
 have hS1 : Aside0 (Spc w1) := .mk (hS.out.calm hb1.out)
 have hS2 : Aside0 (Spc w1.drew) := .mk (hS.out.calm (below_drew hb1.out))
 have hT1 : Aside0 (Pow w1) := .mk (hT.out.below hb1.out)
 have hlow := Aside0.mk H.out.low
 generalize hub : w.heap.size = ub at *
 have c0 := cell_at hu 0; have c1 := cell_at hu 1; have c2 := cell_at hu 2; have c3 := cell_at hu 3; have c4 := cell_at hu 4; have c5 := cell_at hu 5
 simp at c0 c1 c2 c3 c4 c5
 replace hu := Aside0.mk hu
 have hin := fun (w : World) (H : MapIn B (fun k => X k ∨ k = ub) m n T w) (hT : Pow w) => inHdr_call H hT (key) true kind hkd.out text num hn.out hs 4 pre key
 unfold HV FV at hin
 replace hin := Aside0.mk hin
 go_region_held3 (fun w' => w'.cell? ⟨ub, 0, none⟩ = some (.int .i64 4) ∧ w'.cell? ⟨ub, 1, none⟩ = some (.string pre) ∧ w'.cell? ⟨ub, 2, none⟩ = some (.string key) ∧ w'.cell? ⟨ub, 3, none⟩ = some (.int .i64 kind) ∧ w'.cell? ⟨ub, 4, none⟩ = some (.string text) ∧ w'.cell? ⟨ub, 5, none⟩ = some (.int .i64 num)) (simp [*, World.cell?_alloc_some, World.cell?_setCell_far]) (first | ((go_at_call 77; refine (addHdr_call eb m key w1.drew hS2.out hk.out hz.out he1).mono ?_; unfold HV; rintro e w2 ⟨rfl, hb⟩; replace hb := undrew hb; have h := heap_below hb hu.out; have e0 := cell_at h 0; have e1 := cell_at h 1; have e2 := cell_at h 2; have e3 := cell_at h 3; have e4 := cell_at h 4; have e5 := cell_at h 5; simp at e0 e1 e2 e3 e4 e5; replace h := Aside0.mk h; replace hb := Aside0.mk hb)) | ((go_at_call 75; refine (hin.out w2 (H1.out.calm hb.out) (hT1.out.below hb.out)).mono ?_; rintro e w4 ⟨rfl, h1, h2⟩; have h4 := Fr.heap h2 h.out (fun hs => hs.2 (.inr rfl)); have g0 := cell_at h4 0; have g1 := cell_at h4 1; have g2 := cell_at h4 2; have g3 := cell_at h4 3; have g4 := cell_at h4 4; have g5 := cell_at h4 5; simp at g0 g1 g2 g3 g4 g5)))
 go_wp2
 go_ret
 subst hub
 exact ⟨rfl, (PutP.from (below_then hb1.out hb1.out.size hb.out) ⟨rfl, h1, h2⟩ (fun k _ hk => .inl hk) hlow.out).2⟩
set_option maxHeartbeats 1000000 in
set_option maxRecDepth 100000 in
theorem putH5 {B : Nat} {X : Nat → Prop} {m n eb : Nat} {T : ByteArray → Option (List ByteArray)} {w : World} (H : MapIn B X m n T w) (hT : Pow w) (hS : Spc w) (he : w.cell? ⟨eb, 4, none⟩ = some (.map (some m)))
 (pre key : ByteArray) (hk : noSp key) (hp : noSp pre) (hz : pre.size + key.size ≤ 1099511627776) (kind : Int) (hkd : 0 ≤ kind ∧ kind ≤ 6) (text : ByteArray) (num : Int) (hn : -9223372036854775808 ≤ num ∧ num ≤ 9223372036854775807) (hs : text.size ≤ 2147483647) :
 Calls Tryz.prog 46 #[.pointer (some ⟨eb, 0, none⟩), FV 5 pre key kind text num] w (PutE B X m n (putT T (pre ++ key) (txt kind text num) false) w) := by
 replace H := Aside0.mk H
 replace hT := Aside0.mk hT
 replace hS := Aside0.mk hS
 replace hkd := Aside0.mk hkd
 replace hn := Aside0.mk hn
 replace hk := Aside0.mk hk
 replace hz := Aside0.mk hz
 replace hp := Aside0.mk hp
 have hpz : Aside0 (pre.size ≤ 1099511627776) := .mk (by have := hz.out; omega)
 unfold FV
 go_enter Tryz.func46, Tryz.ntmps46
 go_wp2_with fail
 have hu := heap_new w (.cells #[.int .i64 5, .string pre, .string key, .int .i64 kind, .string text, .int .i64 num] 48)
 have hb1 := below_alloc (Below.refl w.heap.size w) (.cells #[.int .i64 5, .string pre, .string key, .int .i64 kind, .string text, .int .i64 num] 48)
 have H1 := Aside0.mk (H.out.also hb1 (Nat.le_refl _) (by simp))
 have he1 := pw_cell_below hb1 he
 generalize w.alloc (.cells #[.int .i64 5, .string pre, .string key, .int .i64 kind, .string text, .int .i64 num] 48) = w1 at *
 replace hb1 := Aside0.mk hb1
 have hS1 : Aside0 (Spc w1) := .mk (hS.out.calm hb1.out)
 have hS2 : Aside0 (Spc w1.drew) := .mk (hS.out.calm (below_drew hb1.out))
 have hT1 : Aside0 (Pow w1) := .mk (hT.out.below hb1.out)
 have hlow := Aside0.mk H.out.low
 generalize hub : w.heap.size = ub at *
 have c0 := cell_at hu 0; have c1 := cell_at hu 1; have c2 := cell_at hu 2; have c3 := cell_at hu 3; have c4 := cell_at hu 4; have c5 := cell_at hu 5
 simp at c0 c1 c2 c3 c4 c5
 replace hu := Aside0.mk hu
 have hin := fun (w : World) (H : MapIn B (fun k => X k ∨ k = ub) m n T w) (hT : Pow w) => inHdr_call H hT (pre ++ key) false kind hkd.out text num hn.out hs 5 pre key
 unfold HV FV at hin
 replace hin := Aside0.mk hin
 go_region_held3 (fun w' => w'.cell? ⟨ub, 0, none⟩ = some (.int .i64 5) ∧ w'.cell? ⟨ub, 1, none⟩ = some (.string pre) ∧ w'.cell? ⟨ub, 2, none⟩ = some (.string key) ∧ w'.cell? ⟨ub, 3, none⟩ = some (.int .i64 kind) ∧ w'.cell? ⟨ub, 4, none⟩ = some (.string text) ∧ w'.cell? ⟨ub, 5, none⟩ = some (.int .i64 num)) (simp [*, World.cell?_alloc_some, World.cell?_setCell_far]) (first | ((go_at_call 78; refine (headers_call eb m pre w1.drew hS2.out hp.out hpz.out he1).mono ?_; unfold HS; rintro e w2 ⟨rfl, hb⟩; replace hb := undrew hb; have h := heap_below hb hu.out; have e0 := cell_at h 0; have e1 := cell_at h 1; have e2 := cell_at h 2; have e3 := cell_at h 3; have e4 := cell_at h 4; have e5 := cell_at h 5; simp at e0 e1 e2 e3 e4 e5; replace h := Aside0.mk h; replace hb := Aside0.mk hb)) | ((go_at_call 79; have hcc := hsSet_call m pre key w2 (hS1.out.calm hb.out) hp.out hk.out hz.out; unfold HS HV at hcc; refine hcc.mono ?_; rintro e w3 ⟨rfl, hb3⟩; have h3 := heap_below hb3 h.out; have q0 := cell_at h3 0; have q1 := cell_at h3 1; have q2 := cell_at h3 2; have q3 := cell_at h3 3; have q4 := cell_at h3 4; have q5 := cell_at h3 5; simp at q0 q1 q2 q3 q4 q5; replace h3 := Aside0.mk h3; replace hb3 := Aside0.mk (below_then hb.out hb.out.size hb3))) | ((go_at_call 75; refine (hin.out w3 (H1.out.calm hb3.out) (hT1.out.below hb3.out)).mono ?_; rintro e w4 ⟨rfl, h1, h2⟩; have h4 := Fr.heap h2 h3.out (fun hs => hs.2 (.inr rfl)); have g0 := cell_at h4 0; have g1 := cell_at h4 1; have g2 := cell_at h4 2; have g3 := cell_at h4 3; have g4 := cell_at h4 4; have g5 := cell_at h4 5; simp at g0 g1 g2 g3 g4 g5)))
 go_wp2
 go_ret
 subst hub
 exact ⟨rfl, (PutP.from (below_then hb1.out hb1.out.size hb3.out) ⟨rfl, h1, h2⟩ (fun k _ hk => .inl hk) hlow.out).2⟩
set_option maxHeartbeats 1000000 in
set_option maxRecDepth 100000 in
theorem putH6 {B : Nat} {X : Nat → Prop} {m n eb : Nat} {T : ByteArray → Option (List ByteArray)} {w : World} (H : MapIn B X m n T w) (hT : Pow w) (hS : Spc w) (he : w.cell? ⟨eb, 4, none⟩ = some (.map (some m)))
 (pre key : ByteArray) (hk : noSp key) (hp : noSp pre) (hz : pre.size + key.size ≤ 1099511627776) (kind : Int) (hkd : 0 ≤ kind ∧ kind ≤ 6) (text : ByteArray) (num : Int) (hn : -9223372036854775808 ≤ num ∧ num ≤ 9223372036854775807) (hs : text.size ≤ 2147483647) :
 Calls Tryz.prog 46 #[.pointer (some ⟨eb, 0, none⟩), FV 6 pre key kind text num] w (PutE B X m n (putT T (pre ++ key) (txt kind text num) true) w) := by
 replace H := Aside0.mk H
 replace hT := Aside0.mk hT
 replace hS := Aside0.mk hS
 replace hkd := Aside0.mk hkd
 replace hn := Aside0.mk hn
 replace hk := Aside0.mk hk
 replace hz := Aside0.mk hz
 replace hp := Aside0.mk hp
 have hpz : Aside0 (pre.size ≤ 1099511627776) := .mk (by have := hz.out; omega)
 unfold FV
 go_enter Tryz.func46, Tryz.ntmps46
 go_wp2_with fail
 have hu := heap_new w (.cells #[.int .i64 6, .string pre, .string key, .int .i64 kind, .string text, .int .i64 num] 48)
 have hb1 := below_alloc (Below.refl w.heap.size w) (.cells #[.int .i64 6, .string pre, .string key, .int .i64 kind, .string text, .int .i64 num] 48)
 have H1 := Aside0.mk (H.out.also hb1 (Nat.le_refl _) (by simp))
 have he1 := pw_cell_below hb1 he
 generalize w.alloc (.cells #[.int .i64 6, .string pre, .string key, .int .i64 kind, .string text, .int .i64 num] 48) = w1 at *
 replace hb1 := Aside0.mk hb1
 have hS1 : Aside0 (Spc w1) := .mk (hS.out.calm hb1.out)
 have hS2 : Aside0 (Spc w1.drew) := .mk (hS.out.calm (below_drew hb1.out))
 have hT1 : Aside0 (Pow w1) := .mk (hT.out.below hb1.out)
 have hlow := Aside0.mk H.out.low
 generalize hub : w.heap.size = ub at *
 have c0 := cell_at hu 0; have c1 := cell_at hu 1; have c2 := cell_at hu 2; have c3 := cell_at hu 3; have c4 := cell_at hu 4; have c5 := cell_at hu 5
 simp at c0 c1 c2 c3 c4 c5
 replace hu := Aside0.mk hu
 have hin := fun (w : World) (H : MapIn B (fun k => X k ∨ k = ub) m n T w) (hT : Pow w) => inHdr_call H hT (pre ++ key) true kind hkd.out text num hn.out hs 6 pre key
 unfold HV FV at hin
 replace hin := Aside0.mk hin
 go_region_held3 (fun w' => w'.cell? ⟨ub, 0, none⟩ = some (.int .i64 6) ∧ w'.cell? ⟨ub, 1, none⟩ = some (.string pre) ∧ w'.cell? ⟨ub, 2, none⟩ = some (.string key) ∧ w'.cell? ⟨ub, 3, none⟩ = some (.int .i64 kind) ∧ w'.cell? ⟨ub, 4, none⟩ = some (.string text) ∧ w'.cell? ⟨ub, 5, none⟩ = some (.int .i64 num)) (simp [*, World.cell?_alloc_some, World.cell?_setCell_far]) (first | ((go_at_call 78; refine (headers_call eb m pre w1.drew hS2.out hp.out hpz.out he1).mono ?_; unfold HS; rintro e w2 ⟨rfl, hb⟩; replace hb := undrew hb; have h := heap_below hb hu.out; have e0 := cell_at h 0; have e1 := cell_at h 1; have e2 := cell_at h 2; have e3 := cell_at h 3; have e4 := cell_at h 4; have e5 := cell_at h 5; simp at e0 e1 e2 e3 e4 e5; replace h := Aside0.mk h; replace hb := Aside0.mk hb)) | ((go_at_call 80; have hcc := hsAdd_call m pre key w2 (hS1.out.calm hb.out) hp.out hk.out hz.out; unfold HS HV at hcc; refine hcc.mono ?_; rintro e w3 ⟨rfl, hb3⟩; have h3 := heap_below hb3 h.out; have q0 := cell_at h3 0; have q1 := cell_at h3 1; have q2 := cell_at h3 2; have q3 := cell_at h3 3; have q4 := cell_at h3 4; have q5 := cell_at h3 5; simp at q0 q1 q2 q3 q4 q5; replace h3 := Aside0.mk h3; replace hb3 := Aside0.mk (below_then hb.out hb.out.size hb3))) | ((go_at_call 75; refine (hin.out w3 (H1.out.calm hb3.out) (hT1.out.below hb3.out)).mono ?_; rintro e w4 ⟨rfl, h1, h2⟩; have h4 := Fr.heap h2 h3.out (fun hs => hs.2 (.inr rfl)); have g0 := cell_at h4 0; have g1 := cell_at h4 1; have g2 := cell_at h4 2; have g3 := cell_at h4 3; have g4 := cell_at h4 4; have g5 := cell_at h4 5; simp at g0 g1 g2 g3 g4 g5)))
 go_wp2
 go_ret
 subst hub
 exact ⟨rfl, (PutP.from (below_then hb1.out hb1.out.size hb3.out) ⟨rfl, h1, h2⟩ (fun k _ hk => .inl hk) hlow.out).2⟩
theorem put_hdr {B : Nat} {X : Nat → Prop} {m n eb : Nat} {T : ByteArray → Option (List ByteArray)} {w : World} (H : MapIn B X m n T w) (hT : Pow w) (hS : Spc w) (he : w.cell? ⟨eb, 4, none⟩ = some (.map (some m)))
 (wh : Int) (hw : 3 ≤ wh ∧ wh ≤ 6) (pre key : ByteArray) (hk : noSp key) (hp : 5 ≤ wh → noSp pre) (hz : pre.size + key.size ≤ 1099511627776) (kind : Int) (hkd : 0 ≤ kind ∧ kind ≤ 6) (text : ByteArray) (num : Int) (hn : -9223372036854775808 ≤ num ∧ num ≤ 9223372036854775807) (hs : text.size ≤ 2147483647) :
 Calls Tryz.prog 46 #[.pointer (some ⟨eb, 0, none⟩), FV wh pre key kind text num] w (PutE B X m n (putT T (hkey wh pre key) (txt kind text num) (decide (wh = 4) || decide (wh = 6))) w) := by
 rcases (by omega : wh = 3 ∨ wh = 4 ∨ wh = 5 ∨ wh = 6) with h | h | h | h
 ·subst h; exact putH3 H hT hS he pre key hk (by omega) kind hkd text num hn hs
 ·subst h; exact putH4 H hT hS he pre key hk (by omega) kind hkd text num hn hs
 ·subst h; exact putH5 H hT hS he pre key hk (hp (by omega)) hz kind hkd text num hn hs
 ·subst h; exact putH6 H hT hS he pre key hk (hp (by omega)) hz kind hkd text num hn hs
end HH
end Go.Proofs.YtclmjmfcggkpaaaGreatDoor
