import Derived.Test.YtclmjmfcggkpaaaGreatDoorQ44
import Derived.Test.YtclmjmfcggkpaaaGreatDoorQ22
set_option linter.unusedVariables false
set_option linter.unusedSimpArgs false
namespace Go.Proofs.YtclmjmfcggkpaaaGreatDoor
open Go.RowKit Go.Proofs.YtclmjmfcggkpaaaGreatDoorW.PrintWords Go.Proofs.YtclmjmfcggkpaaaGreatDoorW.PrintLast Go.Proofs.YtclmjmfcggkpaaaGreatDoorW.PrintMore
open PX
namespace HH
open H
/-! ### impl.inHeader -/
set_option maxHeartbeats 400000 in
set_option maxRecDepth 100000 in
theorem inHdr0 {B : Nat} {X : Nat → Prop} {m n : Nat} {T : ByteArray → Option (List ByteArray)} {w : World} (H : MapIn B X m n T w) (hT : Pow w) (key : ByteArray) (add : Bool) (text : ByteArray) (num : Int) (hn : -9223372036854775808 ≤ num ∧ num ≤ 9223372036854775807) (hs : text.size ≤ 2147483647) (wh : Int) (pre key' : ByteArray) :
 Calls Tryz.prog 75 #[HV m key add, FV wh pre key' 0 text num] w (PutP B X m n (putT T key text add) w) := by
 replace H := Aside0.mk H
 replace hT := Aside0.mk hT
 replace hn := Aside0.mk hn
 unfold HV FV
 go_enter Tryz.func75, Tryz.ntmps75
 go_wp2_with fail
 have hb := below_alloc (below_alloc (Below.refl w.heap.size w) (.cells #[.map (some m), .string key, .bool add] 125)) (.cells #[.int .i64 wh, .string pre, .string key', .int .i64 0, .string text, .int .i64 num] 48)
 have hsz : ((w.alloc (.cells #[.map (some m), .string key, .bool add] 125)).alloc (.cells #[.int .i64 wh, .string pre, .string key', .int .i64 0, .string text, .int .i64 num] 48)).heap.size = w.heap.size + 1 + 1 := by simp
 generalize (w.alloc (.cells #[.map (some m), .string key, .bool add] 125)).alloc (.cells #[.int .i64 wh, .string pre, .string key', .int .i64 0, .string text, .int .i64 num] 48) = w1 at *
 have hc := hstr_call (H.out.calm hb) key add text
 unfold HV at hc
 refine hc.mono ?_
 rintro e w' ⟨rfl, h1, h2⟩
 go_wp2
 refine bodyPost_end (results_none rfl _ _ _) rfl ?_
 exact PutP.from hb ⟨rfl, h1, h2⟩ (fun _ _ h => h) H.out.low
set_option maxHeartbeats 400000 in
set_option maxRecDepth 100000 in
theorem inHdr1 {B : Nat} {X : Nat → Prop} {m n : Nat} {T : ByteArray → Option (List ByteArray)} {w : World} (H : MapIn B X m n T w) (hT : Pow w) (key : ByteArray) (add : Bool) (text : ByteArray) (num : Int) (hn : -9223372036854775808 ≤ num ∧ num ≤ 9223372036854775807) (hs : text.size ≤ 2147483647) (wh : Int) (pre key' : ByteArray) :
 Calls Tryz.prog 75 #[HV m key add, FV wh pre key' 1 text num] w (PutP B X m n (putT T key (boolS (num != 0)) add) w) := by
 replace H := Aside0.mk H
 replace hT := Aside0.mk hT
 replace hn := Aside0.mk hn
 unfold HV FV
 go_enter Tryz.func75, Tryz.ntmps75
 go_wp2_with fail
 have hb := below_alloc (below_alloc (Below.refl w.heap.size w) (.cells #[.map (some m), .string key, .bool add] 125)) (.cells #[.int .i64 wh, .string pre, .string key', .int .i64 1, .string text, .int .i64 num] 48)
 have hsz : ((w.alloc (.cells #[.map (some m), .string key, .bool add] 125)).alloc (.cells #[.int .i64 wh, .string pre, .string key', .int .i64 1, .string text, .int .i64 num] 48)).heap.size = w.heap.size + 1 + 1 := by simp
 generalize (w.alloc (.cells #[.map (some m), .string key, .bool add] 125)).alloc (.cells #[.int .i64 wh, .string pre, .string key', .int .i64 1, .string text, .int .i64 num] 48) = w1 at *
 have hc := hbool_call (H.out.calm hb) key add (num != 0)
 unfold HV at hc
 refine hc.mono ?_
 rintro e w' ⟨rfl, h1, h2⟩
 go_wp2
 refine bodyPost_end (results_none rfl _ _ _) rfl ?_
 exact PutP.from hb ⟨rfl, h1, h2⟩ (fun _ _ h => h) H.out.low
set_option maxHeartbeats 400000 in
set_option maxRecDepth 100000 in
theorem inHdr2 {B : Nat} {X : Nat → Prop} {m n : Nat} {T : ByteArray → Option (List ByteArray)} {w : World} (H : MapIn B X m n T w) (hT : Pow w) (key : ByteArray) (add : Bool) (text : ByteArray) (num : Int) (hn : -9223372036854775808 ≤ num ∧ num ≤ 9223372036854775807) (hs : text.size ≤ 2147483647) (wh : Int) (pre key' : ByteArray) :
 Calls Tryz.prog 75 #[HV m key add, FV wh pre key' 2 text num] w (PutP B X m n (putT T key (decS (IntKind.i8.wrap num)) add) w) := by
 replace H := Aside0.mk H
 replace hT := Aside0.mk hT
 replace hn := Aside0.mk hn
 unfold HV FV
 go_enter Tryz.func75, Tryz.ntmps75
 go_wp2_with fail
 have hb := below_alloc (below_alloc (Below.refl w.heap.size w) (.cells #[.map (some m), .string key, .bool add] 125)) (.cells #[.int .i64 wh, .string pre, .string key', .int .i64 2, .string text, .int .i64 num] 48)
 have hsz : ((w.alloc (.cells #[.map (some m), .string key, .bool add] 125)).alloc (.cells #[.int .i64 wh, .string pre, .string key', .int .i64 2, .string text, .int .i64 num] 48)).heap.size = w.heap.size + 1 + 1 := by simp
 generalize (w.alloc (.cells #[.map (some m), .string key, .bool add] 125)).alloc (.cells #[.int .i64 wh, .string pre, .string key', .int .i64 2, .string text, .int .i64 num] 48) = w1 at *
 have hc := hi8_call (H.out.calm hb) key add (hT.out.below hb) _ (i8_rng num).1 (i8_rng num).2
 unfold HV at hc
 refine hc.mono ?_
 rintro e w' ⟨rfl, h1, h2⟩
 go_wp2
 refine bodyPost_end (results_none rfl _ _ _) rfl ?_
 exact PutP.from hb ⟨rfl, h1, h2⟩ (fun _ _ h => h) H.out.low
set_option maxHeartbeats 400000 in
set_option maxRecDepth 100000 in
theorem inHdr3 {B : Nat} {X : Nat → Prop} {m n : Nat} {T : ByteArray → Option (List ByteArray)} {w : World} (H : MapIn B X m n T w) (hT : Pow w) (key : ByteArray) (add : Bool) (text : ByteArray) (num : Int) (hn : -9223372036854775808 ≤ num ∧ num ≤ 9223372036854775807) (hs : text.size ≤ 2147483647) (wh : Int) (pre key' : ByteArray) :
 Calls Tryz.prog 75 #[HV m key add, FV wh pre key' 3 text num] w (PutP B X m n (putT T key (decS (IntKind.i16.wrap num)) add) w) := by
 replace H := Aside0.mk H
 replace hT := Aside0.mk hT
 replace hn := Aside0.mk hn
 unfold HV FV
 go_enter Tryz.func75, Tryz.ntmps75
 go_wp2_with fail
 have hb := below_alloc (below_alloc (Below.refl w.heap.size w) (.cells #[.map (some m), .string key, .bool add] 125)) (.cells #[.int .i64 wh, .string pre, .string key', .int .i64 3, .string text, .int .i64 num] 48)
 have hsz : ((w.alloc (.cells #[.map (some m), .string key, .bool add] 125)).alloc (.cells #[.int .i64 wh, .string pre, .string key', .int .i64 3, .string text, .int .i64 num] 48)).heap.size = w.heap.size + 1 + 1 := by simp
 generalize (w.alloc (.cells #[.map (some m), .string key, .bool add] 125)).alloc (.cells #[.int .i64 wh, .string pre, .string key', .int .i64 3, .string text, .int .i64 num] 48) = w1 at *
 have hc := hi16_call (H.out.calm hb) key add (hT.out.below hb) _ (i16_rng num).1 (i16_rng num).2
 unfold HV at hc
 refine hc.mono ?_
 rintro e w' ⟨rfl, h1, h2⟩
 go_wp2
 refine bodyPost_end (results_none rfl _ _ _) rfl ?_
 exact PutP.from hb ⟨rfl, h1, h2⟩ (fun _ _ h => h) H.out.low
set_option maxHeartbeats 400000 in
set_option maxRecDepth 100000 in
theorem inHdr4 {B : Nat} {X : Nat → Prop} {m n : Nat} {T : ByteArray → Option (List ByteArray)} {w : World} (H : MapIn B X m n T w) (hT : Pow w) (key : ByteArray) (add : Bool) (text : ByteArray) (num : Int) (hn : -9223372036854775808 ≤ num ∧ num ≤ 9223372036854775807) (hs : text.size ≤ 2147483647) (wh : Int) (pre key' : ByteArray) :
 Calls Tryz.prog 75 #[HV m key add, FV wh pre key' 4 text num] w (PutP B X m n (putT T key (decS (wrap32 num)) add) w) := by
 replace H := Aside0.mk H
 replace hT := Aside0.mk hT
 replace hn := Aside0.mk hn
 unfold HV FV
 go_enter Tryz.func75, Tryz.ntmps75
 go_wp2_with fail
 have hb := below_alloc (below_alloc (Below.refl w.heap.size w) (.cells #[.map (some m), .string key, .bool add] 125)) (.cells #[.int .i64 wh, .string pre, .string key', .int .i64 4, .string text, .int .i64 num] 48)
 have hsz : ((w.alloc (.cells #[.map (some m), .string key, .bool add] 125)).alloc (.cells #[.int .i64 wh, .string pre, .string key', .int .i64 4, .string text, .int .i64 num] 48)).heap.size = w.heap.size + 1 + 1 := by simp
 generalize (w.alloc (.cells #[.map (some m), .string key, .bool add] 125)).alloc (.cells #[.int .i64 wh, .string pre, .string key', .int .i64 4, .string text, .int .i64 num] 48) = w1 at *
 have hc := hi32_call (H.out.calm hb) key add (hT.out.below hb) _ (i32_rng num).1 (i32_rng num).2
 unfold HV at hc
 refine hc.mono ?_
 rintro e w' ⟨rfl, h1, h2⟩
 go_wp2
 refine bodyPost_end (results_none rfl _ _ _) rfl ?_
 exact PutP.from hb ⟨rfl, h1, h2⟩ (fun _ _ h => h) H.out.low
set_option maxHeartbeats 2000000 in
set_option maxRecDepth 100000 in
theorem inHdr6 {B : Nat} {X : Nat → Prop} {m n : Nat} {T : ByteArray → Option (List ByteArray)} {w : World} (H : MapIn B X m n T w) (hT : Pow w) (key : ByteArray) (add : Bool) (text : ByteArray) (num : Int) (hn : -9223372036854775808 ≤ num ∧ num ≤ 9223372036854775807) (hs : text.size ≤ 2147483647) (wh : Int) (pre key' : ByteArray) :
 Calls Tryz.prog 75 #[HV m key add, FV wh pre key' 6 text num] w (PutP B X m n (putT T key (b64 text) add) w) := by
 replace H := Aside0.mk H
 replace hT := Aside0.mk hT
 replace hn := Aside0.mk hn
 unfold HV FV
 have hcv := fun (w : World) (s : ByteArray) => Lib.run_convert_string_bytes (P := Tryz.prog) w 9 104 5 s (u := .string) Tryz.underlying9 Tryz.underlying104 Tryz.underlying5
 go_enter Tryz.func75, Tryz.ntmps75
 go_wp2_with fail
 have hb := below_alloc (below_alloc (Below.refl w.heap.size w) (.cells #[.map (some m), .string key, .bool add] 125)) (.cells #[.int .i64 wh, .string pre, .string key', .int .i64 6, .string text, .int .i64 num] 48)
 have hsz : ((w.alloc (.cells #[.map (some m), .string key, .bool add] 125)).alloc (.cells #[.int .i64 wh, .string pre, .string key', .int .i64 6, .string text, .int .i64 num] 48)).heap.size = w.heap.size + 1 + 1 := by simp
 generalize (w.alloc (.cells #[.map (some m), .string key, .bool add] 125)).alloc (.cells #[.int .i64 wh, .string pre, .string key', .int .i64 6, .string text, .int .i64 num] 48) = w1 at *
 have hb1 := bytesWorld_below w1 text
 have ha1 := BAt.of_string w1 text
 rw [hsz] at ha1
 rw [← strZs_length w1 text]
 have ht1 := strZs_take w1 text
 have hc1 : (strZs w1 text).length ≤ 9223372036854775807 := by rw [strZs_length]; have := grownCap_le_maxLen w1 text.size 0 5 (by unfold maxLen; omega); unfold maxLen at this; omega
 have hb2 := Aside0.mk (below_then hb hb.size hb1)
 generalize strZs w1 text = z1 at *
 generalize Lib.bytesWorld w1 5 text = w2 at *
 have hc := hblob_call (H.out.calm hb2.out) key add text hs ha1 ht1 hc1
 unfold HV at hc
 refine hc.mono ?_
 rintro e w' ⟨rfl, h1, h2⟩
 go_wp2
 refine bodyPost_end (results_none rfl _ _ _) rfl ?_
 exact PutP.from hb2.out ⟨rfl, h1, h2⟩ (fun _ _ h => h) H.out.low
theorem inHdr_call {B : Nat} {X : Nat → Prop} {m n : Nat} {T : ByteArray → Option (List ByteArray)} {w : World} (H : MapIn B X m n T w) (hT : Pow w) (key : ByteArray) (add : Bool) (kind : Int) (hk : 0 ≤ kind ∧ kind ≤ 6) (text : ByteArray) (num : Int) (hn : -9223372036854775808 ≤ num ∧ num ≤ 9223372036854775807) (hs : text.size ≤ 2147483647) (wh : Int) (pre key' : ByteArray) :
 Calls Tryz.prog 75 #[HV m key add, FV wh pre key' kind text num] w (PutP B X m n (putT T key (txt kind text num) add) w) := by
 rcases (by omega : kind = 0 ∨ kind = 1 ∨ kind = 2 ∨ kind = 3 ∨ kind = 4 ∨ kind = 5 ∨ kind = 6) with h | h | h | h | h | h | h
 ·subst h; exact inHdr0 H hT key add text num hn hs wh pre key'
 ·subst h; exact inHdr1 H hT key add text num hn hs wh pre key'
 ·subst h; exact inHdr2 H hT key add text num hn hs wh pre key'
 ·subst h; exact inHdr3 H hT key add text num hn hs wh pre key'
 ·subst h; exact inHdr4 H hT key add text num hn hs wh pre key'
 ·subst h; exact inHdr5 H hT key add text num hn hs wh pre key'
 ·subst h; exact inHdr6 H hT key add text num hn hs wh pre key'
end HH
end Go.Proofs.YtclmjmfcggkpaaaGreatDoor
