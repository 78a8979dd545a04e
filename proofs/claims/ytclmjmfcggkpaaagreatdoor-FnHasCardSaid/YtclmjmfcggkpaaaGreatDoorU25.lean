import Derived.Test.YtclmjmfcggkpaaaGreatDoorU19
import Derived.Test.YtclmjmfcggkpaaaGreatDoorU24
import Derived.Deep.RegionHeld3
set_option linter.unusedVariables false
set_option linter.unusedSimpArgs false
namespace Go.Proofs.YtclmjmfcggkpaaaGreatDoor
open Go.RowKit Go.Proofs.YtclmjmfcggkpaaaGreatDoorW.PrintWords Go.Proofs.YtclmjmfcggkpaaaGreatDoorW.PrintLast Go.Proofs.YtclmjmfcggkpaaaGreatDoorW.PrintMore
open PX
namespace HH
open H
/-! ### The kinds of a value of a query; impl.inQuery -/
set_option maxHeartbeats 400000 in
set_option maxRecDepth 100000 in
theorem qstr_call {B : Nat} {X : Nat → Prop} {m n : Nat} {T : ByteArray → Option (List ByteArray)} {w : World} (H : MapIn B X m n T w) (key : ByteArray) (add : Bool) (val : ByteArray) :
 Calls Tryz.prog 113 #[QV m key add, .string val] w (PutP B X m n (putT T key val add) w) := by
 replace H := Aside0.mk H
 unfold QV
 go_enter Tryz.func113, Tryz.ntmps113
 go_wp2_with fail
 have hb := below_alloc (Below.refl w.heap.size w) (.cells #[.map (some m), .string key, .bool add] 121)
 have hc := upd_call (H.out.calm hb) key val add
 unfold QV at hc
 refine hc.mono ?_
 rintro e w' ⟨rfl, h1, h2⟩
 go_wp2
 refine bodyPost_end (results_none rfl _ _ _) rfl ?_
 exact PutP.from hb ⟨rfl, h1, h2⟩ (fun _ _ h => h) H.out.low
set_option maxHeartbeats 400000 in
set_option maxRecDepth 100000 in
theorem qlong_call {B : Nat} {X : Nat → Prop} {m n : Nat} {T : ByteArray → Option (List ByteArray)} {w : World} (H : MapIn B X m n T w) (key : ByteArray) (add : Bool) (hT : Pow w) (v : Int) (h0 : -9223372036854775808 ≤ v) (h1 : v ≤ 9223372036854775807) :
 Calls Tryz.prog 111 #[QV m key add, .int .i64 v] w (PutP B X m n (putT T key (decS v) add) w) := by
 replace H := Aside0.mk H
 unfold QV
 go_enter Tryz.func111, Tryz.ntmps111
 go_wp2_with fail
 replace hT := Aside0.mk hT
 have hu := heap_new w (.cells #[.map (some m), .string key, .bool add] 121)
 have hb1 := below_alloc (Below.refl w.heap.size w) (.cells #[.map (some m), .string key, .bool add] 121)
 have H1 := Aside0.mk (H.out.also hb1 (Nat.le_refl _) (by simp))
 generalize w.alloc (.cells #[.map (some m), .string key, .bool add] 121) = w1 at *
 have hlow := Aside0.mk H.out.low
 replace hb1 := Aside0.mk hb1
 generalize hub : w.heap.size = ub at *
 have c0 := cell_at hu 0; have c1 := cell_at hu 1; have c2 := cell_at hu 2
 simp at c0 c1 c2
 replace hu := Aside0.mk hu
 have hin := fun (w : World) (val : ByteArray) (H : MapIn B (fun k => X k ∨ k = ub) m n T w) => upd_call H key val add
 unfold QV at hin
 replace hin := Aside0.mk hin
 go_region_held3 (fun w' => w'.cell? ⟨ub, 0, none⟩ = some (.map (some m)) ∧ w'.cell? ⟨ub, 1, none⟩ = some (.string key) ∧ w'.cell? ⟨ub, 2, none⟩ = some (.bool add)) (go_keep) (first | ((go_at_call 141; refine (fmtInt_call v h0 h1 _ ((hT.out.below (by rw [hub]; exact hb1.out)).below (below_drew (Below.refl _ _)))).mono ?_; rintro e w2 ⟨rfl, hb⟩; replace hb := undrew hb; have h := Fr.heap (Fr.of_below (S := fun _ => False) hb) hu.out (fun h => h); have e0 := cell_at h 0; have e1 := cell_at h 1; have e2 := cell_at h 2; simp at e0 e1 e2; replace h := Aside0.mk h; replace hb := Aside0.mk hb)) | ((go_at_call 142; refine (hin.out w2 _ (H1.out.calm hb.out)).mono ?_; rintro e w3 ⟨rfl, h2, h3⟩; have h4 := Fr.heap h3 h.out (fun hs => hs.2 (.inr rfl)); have g0 := cell_at h4 0; have g1 := cell_at h4 1; have g2 := cell_at h4 2; simp at g0 g1 g2)))
 go_wp2
 refine bodyPost_end (results_none rfl _ _ _) rfl ?_
 subst hub
 exact PutP.from (below_then hb1.out hb1.out.size hb.out) ⟨rfl, h2, h3⟩ (fun k _ hk => .inl hk) hlow.out
set_option maxHeartbeats 400000 in
set_option maxRecDepth 100000 in
theorem qbool_call {B : Nat} {X : Nat → Prop} {m n : Nat} {T : ByteArray → Option (List ByteArray)} {w : World} (H : MapIn B X m n T w) (key : ByteArray) (add : Bool) (b : Bool) :
 Calls Tryz.prog 107 #[QV m key add, .bool b] w (PutP B X m n (putT T key (boolS b) add) w) := by
 replace H := Aside0.mk H
 unfold QV
 go_enter Tryz.func107, Tryz.ntmps107
 go_wp2_with fail
 have hu := heap_new w (.cells #[.map (some m), .string key, .bool add] 121)
 have hb1 := below_alloc (Below.refl w.heap.size w) (.cells #[.map (some m), .string key, .bool add] 121)
 have H1 := Aside0.mk (H.out.also hb1 (Nat.le_refl _) (by simp))
 generalize w.alloc (.cells #[.map (some m), .string key, .bool add] 121) = w1 at *
 have hlow := Aside0.mk H.out.low
 replace hb1 := Aside0.mk hb1
 generalize hub : w.heap.size = ub at *
 have c0 := cell_at hu 0; have c1 := cell_at hu 1; have c2 := cell_at hu 2
 simp at c0 c1 c2
 replace hu := Aside0.mk hu
 have hin := fun (w : World) (val : ByteArray) (H : MapIn B (fun k => X k ∨ k = ub) m n T w) => upd_call H key val add
 unfold QV at hin
 replace hin := Aside0.mk hin
 go_region_held3 (fun w' => w'.cell? ⟨ub, 0, none⟩ = some (.map (some m)) ∧ w'.cell? ⟨ub, 1, none⟩ = some (.string key) ∧ w'.cell? ⟨ub, 2, none⟩ = some (.bool add)) (go_keep) (first | ((go_at_call 140; refine (fmtBool_call b _).mono ?_; rintro e w2 ⟨rfl, hd⟩; have hb := hd.below; clear hd; replace hb := undrew hb; have h := Fr.heap (Fr.of_below (S := fun _ => False) hb) hu.out (fun h => h); have e0 := cell_at h 0; have e1 := cell_at h 1; have e2 := cell_at h 2; simp at e0 e1 e2; replace h := Aside0.mk h; replace hb := Aside0.mk hb)) | ((go_at_call 142; refine (hin.out w2 _ (H1.out.calm hb.out)).mono ?_; rintro e w3 ⟨rfl, h2, h3⟩; have h4 := Fr.heap h3 h.out (fun hs => hs.2 (.inr rfl)); have g0 := cell_at h4 0; have g1 := cell_at h4 1; have g2 := cell_at h4 2; simp at g0 g1 g2)))
 go_wp2
 refine bodyPost_end (results_none rfl _ _ _) rfl ?_
 subst hub
 exact PutP.from (below_then hb1.out hb1.out.size hb.out) ⟨rfl, h2, h3⟩ (fun k _ hk => .inl hk) hlow.out
set_option maxHeartbeats 400000 in
set_option maxRecDepth 100000 in
theorem qi8_call {B : Nat} {X : Nat → Prop} {m n : Nat} {T : ByteArray → Option (List ByteArray)} {w : World} (H : MapIn B X m n T w) (key : ByteArray) (add : Bool) (hT : Pow w) (v : Int) (h0 : -128 ≤ v) (h1 : v ≤ 127) :
 Calls Tryz.prog 108 #[QV m key add, .int .i8 v] w (PutP B X m n (putT T key (decS v) add) w) := by
 replace H := Aside0.mk H
 unfold QV
 go_enter Tryz.func108, Tryz.ntmps108
 go_wp2_with fail
 replace hT := Aside0.mk hT
 have hb := below_alloc (Below.refl w.heap.size w) (.cells #[.map (some m), .string key, .bool add] 121)
 have hc := qlong_call (H.out.calm hb) key add (hT.out.below hb) v (by omega) (by omega)
 unfold QV at hc
 refine hc.mono ?_
 rintro e w' ⟨rfl, h1, h2⟩
 go_wp2
 refine bodyPost_end (results_none rfl _ _ _) rfl ?_
 exact PutP.from hb ⟨rfl, h1, h2⟩ (fun _ _ h => h) H.out.low
set_option maxHeartbeats 400000 in
set_option maxRecDepth 100000 in
theorem qi16_call {B : Nat} {X : Nat → Prop} {m n : Nat} {T : ByteArray → Option (List ByteArray)} {w : World} (H : MapIn B X m n T w) (key : ByteArray) (add : Bool) (hT : Pow w) (v : Int) (h0 : -32768 ≤ v) (h1 : v ≤ 32767) :
 Calls Tryz.prog 109 #[QV m key add, .int .i16 v] w (PutP B X m n (putT T key (decS v) add) w) := by
 replace H := Aside0.mk H
 unfold QV
 go_enter Tryz.func109, Tryz.ntmps109
 go_wp2_with fail
 replace hT := Aside0.mk hT
 have hb := below_alloc (Below.refl w.heap.size w) (.cells #[.map (some m), .string key, .bool add] 121)
 have hc := qlong_call (H.out.calm hb) key add (hT.out.below hb) v (by omega) (by omega)
 unfold QV at hc
 refine hc.mono ?_
 rintro e w' ⟨rfl, h1, h2⟩
 go_wp2
 refine bodyPost_end (results_none rfl _ _ _) rfl ?_
 exact PutP.from hb ⟨rfl, h1, h2⟩ (fun _ _ h => h) H.out.low
set_option maxHeartbeats 400000 in
set_option maxRecDepth 100000 in
theorem qi32_call {B : Nat} {X : Nat → Prop} {m n : Nat} {T : ByteArray → Option (List ByteArray)} {w : World} (H : MapIn B X m n T w) (key : ByteArray) (add : Bool) (hT : Pow w) (v : Int) (h0 : -2147483648 ≤ v) (h1 : v ≤ 2147483647) :
 Calls Tryz.prog 110 #[QV m key add, .int .i32 v] w (PutP B X m n (putT T key (decS v) add) w) := by
 replace H := Aside0.mk H
 unfold QV
 go_enter Tryz.func110, Tryz.ntmps110
 go_wp2_with fail
 replace hT := Aside0.mk hT
 have hb := below_alloc (Below.refl w.heap.size w) (.cells #[.map (some m), .string key, .bool add] 121)
 have hc := qlong_call (H.out.calm hb) key add (hT.out.below hb) v (by omega) (by omega)
 unfold QV at hc
 refine hc.mono ?_
 rintro e w' ⟨rfl, h1, h2⟩
 go_wp2
 refine bodyPost_end (results_none rfl _ _ _) rfl ?_
 exact PutP.from hb ⟨rfl, h1, h2⟩ (fun _ _ h => h) H.out.low
set_option maxHeartbeats 400000 in
set_option maxRecDepth 100000 in
theorem qblob_call {B : Nat} {X : Nat → Prop} {m n : Nat} {T : ByteArray → Option (List ByteArray)} {w : World} (H : MapIn B X m n T w) (key : ByteArray) (add : Bool) (s : ByteArray) (hs : s.size ≤ 2147483647)
 {g : Nat} {zs : List Int} (hB : BAt w g zs) (ht : zs.take s.size = bytesOf s) (hz : zs.length ≤ 9223372036854775807) :
 Calls Tryz.prog 112 #[QV m key add, .slice (some ⟨g, 0, none⟩) s.size zs.length] w (PutP B X m n (putT T key (b64 s) add) w) := by
 replace H := Aside0.mk H
 have hb64 := fun (w' : World) (hb : Below w.heap.size w w') => smhttp_b64.calls _ (fun k => k = g) (some ⟨g, 0, none⟩) zs.length (bytesOf s) (b64 s) w' (V_of_BAt (hB.below hb) ht hz) (b64_eq s hs)
 rw [bytesOf_length] at hb64
 replace hb64 := Aside0.mk hb64
 clear ht hB
 unfold QV
 go_enter Tryz.func112, Tryz.ntmps112
 go_wp2_with fail
 have hb := below_alloc (Below.refl w.heap.size w) (.cells #[.map (some m), .string key, .bool add] 121)
 have hu := heap_new w (.cells #[.map (some m), .string key, .bool add] 121)
 generalize w.alloc (.cells #[.map (some m), .string key, .bool add] 121) = w1 at *
 refine (hb64.out w1 hb).mono ?_
 rintro e w2 ⟨rfl, hb2⟩
 have hu2 := heap_below hb2 hu
 have hb3 := Aside0.mk (below_then hb hb.size hb2)
 have c0 := cell_at hu2 0; have c1 := cell_at hu2 1; have c2 := cell_at hu2 2
 simp at c0 c1 c2
 clear hu hu2 hb hb2
 go_wp2_with fail
 have hc := upd_call (H.out.calm hb3.out) key (b64 s) add
 unfold QV at hc
 refine hc.mono ?_
 rintro e w' ⟨rfl, h1, h2⟩
 go_wp2
 refine bodyPost_end (results_none rfl _ _ _) rfl ?_
 exact PutP.from hb3.out ⟨rfl, h1, h2⟩ (fun _ _ h => h) H.out.low
set_option maxHeartbeats 400000 in
set_option maxRecDepth 100000 in
theorem inQ0 {B : Nat} {X : Nat → Prop} {m n : Nat} {T : ByteArray → Option (List ByteArray)} {w : World} (H : MapIn B X m n T w) (hT : Pow w) (key : ByteArray) (add : Bool) (text : ByteArray) (num : Int) (hn : -9223372036854775808 ≤ num ∧ num ≤ 9223372036854775807) (hs : text.size ≤ 2147483647) (wh : Int) (pre key' : ByteArray) :
 Calls Tryz.prog 72 #[QV m key add, FV wh pre key' 0 text num] w (PutP B X m n (putT T key text add) w) := by
 replace H := Aside0.mk H
 replace hT := Aside0.mk hT
 replace hn := Aside0.mk hn
 unfold QV FV
 go_enter Tryz.func72, Tryz.ntmps72
 go_wp2_with fail
 have hb := below_alloc (below_alloc (Below.refl w.heap.size w) (.cells #[.map (some m), .string key, .bool add] 121)) (.cells #[.int .i64 wh, .string pre, .string key', .int .i64 0, .string text, .int .i64 num] 48)
 have hsz : ((w.alloc (.cells #[.map (some m), .string key, .bool add] 121)).alloc (.cells #[.int .i64 wh, .string pre, .string key', .int .i64 0, .string text, .int .i64 num] 48)).heap.size = w.heap.size + 1 + 1 := by simp
 generalize (w.alloc (.cells #[.map (some m), .string key, .bool add] 121)).alloc (.cells #[.int .i64 wh, .string pre, .string key', .int .i64 0, .string text, .int .i64 num] 48) = w1 at *
 have hc := qstr_call (H.out.calm hb) key add text
 unfold QV at hc
 refine hc.mono ?_
 rintro e w' ⟨rfl, h1, h2⟩
 go_wp2
 refine bodyPost_end (results_none rfl _ _ _) rfl ?_
 exact PutP.from hb ⟨rfl, h1, h2⟩ (fun _ _ h => h) H.out.low
set_option maxHeartbeats 400000 in
set_option maxRecDepth 100000 in
theorem inQ1 {B : Nat} {X : Nat → Prop} {m n : Nat} {T : ByteArray → Option (List ByteArray)} {w : World} (H : MapIn B X m n T w) (hT : Pow w) (key : ByteArray) (add : Bool) (text : ByteArray) (num : Int) (hn : -9223372036854775808 ≤ num ∧ num ≤ 9223372036854775807) (hs : text.size ≤ 2147483647) (wh : Int) (pre key' : ByteArray) :
 Calls Tryz.prog 72 #[QV m key add, FV wh pre key' 1 text num] w (PutP B X m n (putT T key (boolS (num != 0)) add) w) := by
 replace H := Aside0.mk H
 replace hT := Aside0.mk hT
 replace hn := Aside0.mk hn
 unfold QV FV
 go_enter Tryz.func72, Tryz.ntmps72
 go_wp2_with fail
 have hb := below_alloc (below_alloc (Below.refl w.heap.size w) (.cells #[.map (some m), .string key, .bool add] 121)) (.cells #[.int .i64 wh, .string pre, .string key', .int .i64 1, .string text, .int .i64 num] 48)
 have hsz : ((w.alloc (.cells #[.map (some m), .string key, .bool add] 121)).alloc (.cells #[.int .i64 wh, .string pre, .string key', .int .i64 1, .string text, .int .i64 num] 48)).heap.size = w.heap.size + 1 + 1 := by simp
 generalize (w.alloc (.cells #[.map (some m), .string key, .bool add] 121)).alloc (.cells #[.int .i64 wh, .string pre, .string key', .int .i64 1, .string text, .int .i64 num] 48) = w1 at *
 have hc := qbool_call (H.out.calm hb) key add (num != 0)
 unfold QV at hc
 refine hc.mono ?_
 rintro e w' ⟨rfl, h1, h2⟩
 go_wp2
 refine bodyPost_end (results_none rfl _ _ _) rfl ?_
 exact PutP.from hb ⟨rfl, h1, h2⟩ (fun _ _ h => h) H.out.low
set_option maxHeartbeats 400000 in
set_option maxRecDepth 100000 in
theorem inQ2 {B : Nat} {X : Nat → Prop} {m n : Nat} {T : ByteArray → Option (List ByteArray)} {w : World} (H : MapIn B X m n T w) (hT : Pow w) (key : ByteArray) (add : Bool) (text : ByteArray) (num : Int) (hn : -9223372036854775808 ≤ num ∧ num ≤ 9223372036854775807) (hs : text.size ≤ 2147483647) (wh : Int) (pre key' : ByteArray) :
 Calls Tryz.prog 72 #[QV m key add, FV wh pre key' 2 text num] w (PutP B X m n (putT T key (decS (IntKind.i8.wrap num)) add) w) := by
 replace H := Aside0.mk H
 replace hT := Aside0.mk hT
 replace hn := Aside0.mk hn
 unfold QV FV
 go_enter Tryz.func72, Tryz.ntmps72
 go_wp2_with fail
 have hb := below_alloc (below_alloc (Below.refl w.heap.size w) (.cells #[.map (some m), .string key, .bool add] 121)) (.cells #[.int .i64 wh, .string pre, .string key', .int .i64 2, .string text, .int .i64 num] 48)
 have hsz : ((w.alloc (.cells #[.map (some m), .string key, .bool add] 121)).alloc (.cells #[.int .i64 wh, .string pre, .string key', .int .i64 2, .string text, .int .i64 num] 48)).heap.size = w.heap.size + 1 + 1 := by simp
 generalize (w.alloc (.cells #[.map (some m), .string key, .bool add] 121)).alloc (.cells #[.int .i64 wh, .string pre, .string key', .int .i64 2, .string text, .int .i64 num] 48) = w1 at *
 have hc := qi8_call (H.out.calm hb) key add (hT.out.below hb) _ (i8_rng num).1 (i8_rng num).2
 unfold QV at hc
 refine hc.mono ?_
 rintro e w' ⟨rfl, h1, h2⟩
 go_wp2
 refine bodyPost_end (results_none rfl _ _ _) rfl ?_
 exact PutP.from hb ⟨rfl, h1, h2⟩ (fun _ _ h => h) H.out.low
set_option maxHeartbeats 400000 in
set_option maxRecDepth 100000 in
theorem inQ3 {B : Nat} {X : Nat → Prop} {m n : Nat} {T : ByteArray → Option (List ByteArray)} {w : World} (H : MapIn B X m n T w) (hT : Pow w) (key : ByteArray) (add : Bool) (text : ByteArray) (num : Int) (hn : -9223372036854775808 ≤ num ∧ num ≤ 9223372036854775807) (hs : text.size ≤ 2147483647) (wh : Int) (pre key' : ByteArray) :
 Calls Tryz.prog 72 #[QV m key add, FV wh pre key' 3 text num] w (PutP B X m n (putT T key (decS (IntKind.i16.wrap num)) add) w) := by
 replace H := Aside0.mk H
 replace hT := Aside0.mk hT
 replace hn := Aside0.mk hn
 unfold QV FV
 go_enter Tryz.func72, Tryz.ntmps72
 go_wp2_with fail
 have hb := below_alloc (below_alloc (Below.refl w.heap.size w) (.cells #[.map (some m), .string key, .bool add] 121)) (.cells #[.int .i64 wh, .string pre, .string key', .int .i64 3, .string text, .int .i64 num] 48)
 have hsz : ((w.alloc (.cells #[.map (some m), .string key, .bool add] 121)).alloc (.cells #[.int .i64 wh, .string pre, .string key', .int .i64 3, .string text, .int .i64 num] 48)).heap.size = w.heap.size + 1 + 1 := by simp
 generalize (w.alloc (.cells #[.map (some m), .string key, .bool add] 121)).alloc (.cells #[.int .i64 wh, .string pre, .string key', .int .i64 3, .string text, .int .i64 num] 48) = w1 at *
 have hc := qi16_call (H.out.calm hb) key add (hT.out.below hb) _ (i16_rng num).1 (i16_rng num).2
 unfold QV at hc
 refine hc.mono ?_
 rintro e w' ⟨rfl, h1, h2⟩
 go_wp2
 refine bodyPost_end (results_none rfl _ _ _) rfl ?_
 exact PutP.from hb ⟨rfl, h1, h2⟩ (fun _ _ h => h) H.out.low
set_option maxHeartbeats 400000 in
set_option maxRecDepth 100000 in
theorem inQ4 {B : Nat} {X : Nat → Prop} {m n : Nat} {T : ByteArray → Option (List ByteArray)} {w : World} (H : MapIn B X m n T w) (hT : Pow w) (key : ByteArray) (add : Bool) (text : ByteArray) (num : Int) (hn : -9223372036854775808 ≤ num ∧ num ≤ 9223372036854775807) (hs : text.size ≤ 2147483647) (wh : Int) (pre key' : ByteArray) :
 Calls Tryz.prog 72 #[QV m key add, FV wh pre key' 4 text num] w (PutP B X m n (putT T key (decS (wrap32 num)) add) w) := by
 replace H := Aside0.mk H
 replace hT := Aside0.mk hT
 replace hn := Aside0.mk hn
 unfold QV FV
 go_enter Tryz.func72, Tryz.ntmps72
 go_wp2_with fail
 have hb := below_alloc (below_alloc (Below.refl w.heap.size w) (.cells #[.map (some m), .string key, .bool add] 121)) (.cells #[.int .i64 wh, .string pre, .string key', .int .i64 4, .string text, .int .i64 num] 48)
 have hsz : ((w.alloc (.cells #[.map (some m), .string key, .bool add] 121)).alloc (.cells #[.int .i64 wh, .string pre, .string key', .int .i64 4, .string text, .int .i64 num] 48)).heap.size = w.heap.size + 1 + 1 := by simp
 generalize (w.alloc (.cells #[.map (some m), .string key, .bool add] 121)).alloc (.cells #[.int .i64 wh, .string pre, .string key', .int .i64 4, .string text, .int .i64 num] 48) = w1 at *
 have hc := qi32_call (H.out.calm hb) key add (hT.out.below hb) _ (i32_rng num).1 (i32_rng num).2
 unfold QV at hc
 refine hc.mono ?_
 rintro e w' ⟨rfl, h1, h2⟩
 go_wp2
 refine bodyPost_end (results_none rfl _ _ _) rfl ?_
 exact PutP.from hb ⟨rfl, h1, h2⟩ (fun _ _ h => h) H.out.low
set_option maxHeartbeats 400000 in
set_option maxRecDepth 100000 in
theorem inQ5 {B : Nat} {X : Nat → Prop} {m n : Nat} {T : ByteArray → Option (List ByteArray)} {w : World} (H : MapIn B X m n T w) (hT : Pow w) (key : ByteArray) (add : Bool) (text : ByteArray) (num : Int) (hn : -9223372036854775808 ≤ num ∧ num ≤ 9223372036854775807) (hs : text.size ≤ 2147483647) (wh : Int) (pre key' : ByteArray) :
 Calls Tryz.prog 72 #[QV m key add, FV wh pre key' 5 text num] w (PutP B X m n (putT T key (decS num) add) w) := by
 replace H := Aside0.mk H
 replace hT := Aside0.mk hT
 replace hn := Aside0.mk hn
 unfold QV FV
 go_enter Tryz.func72, Tryz.ntmps72
 go_wp2_with fail
 have hb := below_alloc (below_alloc (Below.refl w.heap.size w) (.cells #[.map (some m), .string key, .bool add] 121)) (.cells #[.int .i64 wh, .string pre, .string key', .int .i64 5, .string text, .int .i64 num] 48)
 have hsz : ((w.alloc (.cells #[.map (some m), .string key, .bool add] 121)).alloc (.cells #[.int .i64 wh, .string pre, .string key', .int .i64 5, .string text, .int .i64 num] 48)).heap.size = w.heap.size + 1 + 1 := by simp
 generalize (w.alloc (.cells #[.map (some m), .string key, .bool add] 121)).alloc (.cells #[.int .i64 wh, .string pre, .string key', .int .i64 5, .string text, .int .i64 num] 48) = w1 at *
 have hc := qlong_call (H.out.calm hb) key add (hT.out.below hb) num hn.out.1 hn.out.2
 unfold QV at hc
 refine hc.mono ?_
 rintro e w' ⟨rfl, h1, h2⟩
 go_wp2
 refine bodyPost_end (results_none rfl _ _ _) rfl ?_
 exact PutP.from hb ⟨rfl, h1, h2⟩ (fun _ _ h => h) H.out.low
set_option maxHeartbeats 2000000 in
set_option maxRecDepth 100000 in
theorem inQ6 {B : Nat} {X : Nat → Prop} {m n : Nat} {T : ByteArray → Option (List ByteArray)} {w : World} (H : MapIn B X m n T w) (hT : Pow w) (key : ByteArray) (add : Bool) (text : ByteArray) (num : Int) (hn : -9223372036854775808 ≤ num ∧ num ≤ 9223372036854775807) (hs : text.size ≤ 2147483647) (wh : Int) (pre key' : ByteArray) :
 Calls Tryz.prog 72 #[QV m key add, FV wh pre key' 6 text num] w (PutP B X m n (putT T key (b64 text) add) w) := by
 replace H := Aside0.mk H
 replace hT := Aside0.mk hT
 replace hn := Aside0.mk hn
 unfold QV FV
 have hcv := fun (w : World) (s : ByteArray) => Lib.run_convert_string_bytes (P := Tryz.prog) w 9 104 5 s (u := .string) Tryz.underlying9 Tryz.underlying104 Tryz.underlying5
 go_enter Tryz.func72, Tryz.ntmps72
 go_wp2_with fail
 have hb := below_alloc (below_alloc (Below.refl w.heap.size w) (.cells #[.map (some m), .string key, .bool add] 121)) (.cells #[.int .i64 wh, .string pre, .string key', .int .i64 6, .string text, .int .i64 num] 48)
 have hsz : ((w.alloc (.cells #[.map (some m), .string key, .bool add] 121)).alloc (.cells #[.int .i64 wh, .string pre, .string key', .int .i64 6, .string text, .int .i64 num] 48)).heap.size = w.heap.size + 1 + 1 := by simp
 generalize (w.alloc (.cells #[.map (some m), .string key, .bool add] 121)).alloc (.cells #[.int .i64 wh, .string pre, .string key', .int .i64 6, .string text, .int .i64 num] 48) = w1 at *
 have hb1 := bytesWorld_below w1 text
 have ha1 := BAt.of_string w1 text
 rw [hsz] at ha1
 rw [← strZs_length w1 text]
 have ht1 := strZs_take w1 text
 have hc1 : (strZs w1 text).length ≤ 9223372036854775807 := by rw [strZs_length]; have := grownCap_le_maxLen w1 text.size 0 5 (by unfold maxLen; omega); unfold maxLen at this; omega
 have hb2 := Aside0.mk (below_then hb hb.size hb1)
 generalize strZs w1 text = z1 at *
 generalize Lib.bytesWorld w1 5 text = w2 at *
 have hc := qblob_call (H.out.calm hb2.out) key add text hs ha1 ht1 hc1
 unfold QV at hc
 refine hc.mono ?_
 rintro e w' ⟨rfl, h1, h2⟩
 go_wp2
 refine bodyPost_end (results_none rfl _ _ _) rfl ?_
 exact PutP.from hb2.out ⟨rfl, h1, h2⟩ (fun _ _ h => h) H.out.low
theorem inQ_call {B : Nat} {X : Nat → Prop} {m n : Nat} {T : ByteArray → Option (List ByteArray)} {w : World} (H : MapIn B X m n T w) (hT : Pow w) (key : ByteArray) (add : Bool) (kind : Int) (hk : 0 ≤ kind ∧ kind ≤ 6) (text : ByteArray) (num : Int) (hn : -9223372036854775808 ≤ num ∧ num ≤ 9223372036854775807) (hs : text.size ≤ 2147483647) (wh : Int) (pre key' : ByteArray) :
 Calls Tryz.prog 72 #[QV m key add, FV wh pre key' kind text num] w (PutP B X m n (putT T key (txt kind text num) add) w) := by
 rcases (by omega : kind = 0 ∨ kind = 1 ∨ kind = 2 ∨ kind = 3 ∨ kind = 4 ∨ kind = 5 ∨ kind = 6) with h | h | h | h | h | h | h
 ·subst h; exact inQ0 H hT key add text num hn hs wh pre key'
 ·subst h; exact inQ1 H hT key add text num hn hs wh pre key'
 ·subst h; exact inQ2 H hT key add text num hn hs wh pre key'
 ·subst h; exact inQ3 H hT key add text num hn hs wh pre key'
 ·subst h; exact inQ4 H hT key add text num hn hs wh pre key'
 ·subst h; exact inQ5 H hT key add text num hn hs wh pre key'
 ·subst h; exact inQ6 H hT key add text num hn hs wh pre key'
end HH
end Go.Proofs.YtclmjmfcggkpaaaGreatDoor
