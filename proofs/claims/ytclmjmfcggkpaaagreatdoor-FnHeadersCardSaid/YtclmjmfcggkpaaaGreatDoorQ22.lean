import Derived.Test.YtclmjmfcggkpaaaGreatDoorQ18
import Derived.Test.YtclmjmfcggkpaaaGreatDoorQ21
import Derived.Deep.RegionHeld3
set_option linter.unusedVariables false
set_option linter.unusedSimpArgs false
namespace Go.Proofs.YtclmjmfcggkpaaaGreatDoor
open Go.RowKit Go.Proofs.YtclmjmfcggkpaaaGreatDoorW.PrintWords Go.Proofs.YtclmjmfcggkpaaaGreatDoorW.PrintLast Go.Proofs.YtclmjmfcggkpaaaGreatDoorW.PrintMore
open PX
open Go.ChangeMaps (setBlock)
namespace HH
open H
/-! ### The kinds of header values -/
def HV (m : Nat) (key : ByteArray) (add : Bool) : Value := .agg #[.map (some m), .string key, .bool add]
def putT (T : ByteArray → Option (List ByteArray)) (key val : ByteArray) (add : Bool) : ByteArray → Option (List ByteArray) := upT T key ((if add then (T key).getD [] else []) ++ [val])
def PutP (B : Nat) (X : Nat → Prop) (m n : Nat) (T : ByteArray → Option (List ByteArray)) (w : World) (e : Ending) (w' : World) : Prop :=
 e = .returned (.tuple #[]) ∧ HMq B X m (n + 1) T w' ∧ Fr (fun k => B ≤ k ∧ ¬ X k) w w'
theorem HMq.calm {B : Nat} {X : Nat → Prop} {m n : Nat} {T : ByteArray → Option (List ByteArray)} {w w' : World} (h : HMq B X m n T w) (hb : Below w.heap.size w w') : HMq B X m n T w' := by
 obtain ⟨rs, clock, h1, h2, h3⟩ := h.out
 exact ⟨rs, clock, h1.calm hb, h2, h3⟩
theorem HMq.re {B : Nat} {X X' : Nat → Prop} {m n : Nat} {T : ByteArray → Option (List ByteArray)} {w : World} (h : HMq B X m n T w) (hX : ∀ k, X' k → X k ∨ w.heap.size ≤ k) : HMq B X' m n T w := by
 obtain ⟨rs, clock, h1, h2, h3⟩ := h.out
 exact ⟨rs, clock, h1.reN hX, h2, h3⟩
theorem HMq.eqT {B : Nat} {X : Nat → Prop} {m n : Nat} {T T' : ByteArray → Option (List ByteArray)} {w : World} (h : HMq B X m n T w) (e : ∀ k, T k = T' k) : HMq B X m n T' w := by
 obtain ⟨rs, clock, h1, h2, h3⟩ := h.out
 exact ⟨rs, clock, h1, fun k => (h2 k).trans (e k), h3⟩
theorem HMq.geB {B : Nat} {X : Nat → Prop} {m n : Nat} {T : ByteArray → Option (List ByteArray)} {w : World} (h : HMq B X m n T w) : B ≤ m ∧ m < w.heap.size ∧ ¬ X m := by
 obtain ⟨rs, clock, h1, h2, h3⟩ := h.out
 exact ⟨h1.geB, h1.lt, h1.neN⟩
theorem PutP.from {B : Nat} {X X' : Nat → Prop} {m n : Nat} {T : ByteArray → Option (List ByteArray)} {w w1 w' : World} {e : Ending} (hb : Below w.heap.size w w1) (h : PutP B X' m n T w1 e w') (hX : ∀ k, k < w.heap.size → X k → X' k) (hlt : ∀ k, X k → k < w.heap.size) : PutP B X m n T w e w' := by
 obtain ⟨h1, h2, h3⟩ := h
 refine ⟨h1, h2.re (fun k hk => .inl (hX k (hlt k hk) hk)), (Fr.of_below (S := fun k => B ≤ k ∧ ¬ X k) hb).trans h3 (fun k hk hs => ⟨hs.1, fun hx => hs.2 (hX k hk hx)⟩)⟩
structure MapIn (B : Nat) (X : Nat → Prop) (m n : Nat) (T : ByteArray → Option (List ByteArray)) (w : World) : Prop where
 map : HMq B X m n T w
 low : ∀ k, X k → k < w.heap.size
 short : ∀ k x, T k = some x → x.length ≤ 1000000
theorem MapIn.calm {B : Nat} {X : Nat → Prop} {m n : Nat} {T : ByteArray → Option (List ByteArray)} {w w' : World} (h : MapIn B X m n T w) (hb : Below w.heap.size w w') : MapIn B X m n T w' :=
 ⟨h.map.calm hb, fun k hk => by have := h.low k hk; have := hb.size; omega, h.short⟩
/-- .. a block besides that is to stay. -/
theorem MapIn.also {B : Nat} {X : Nat → Prop} {m n : Nat} {T : ByteArray → Option (List ByteArray)} {w w' : World} (h : MapIn B X m n T w) (hb : Below w.heap.size w w') {g : Nat} (hg : w.heap.size ≤ g) (hg' : g < w'.heap.size) : MapIn B (fun k => X k ∨ k = g) m n T w' := by
 have h1 := h.map.re (X' := fun k => X k ∨ k = g) (fun k hk => by rcases hk with hk | hk; exact .inl hk; exact .inr (by omega))
 refine ⟨h1.calm hb, fun k hk => ?_, h.short⟩
 rcases hk with hk | hk
 ·have := h.low k hk; have := hb.size; omega
 ·omega
theorem undrew {w w' : World} (h : Below w.drew.heap.size w.drew w') : Below w.heap.size w w' := ⟨h.os, h.tape, h.output, h.size, h.block⟩
theorem mod_call {B : Nat} {X : Nat → Prop} {m n : Nat} {T : ByteArray → Option (List ByteArray)} {w : World} (H : MapIn B X m n T w) (key val : ByteArray) (add : Bool) :
 Calls Tryz.prog 144 #[HV m key add, .string val] w (PutP B X m n (putT T key val add) w) := by
 obtain ⟨rs, clock, h1, h2, h3⟩ := H.map.out
 have hx : ∀ r ∈ rs, r.xs.length ≤ 1000000 := fun r hr => H.short r.key r.xs (by rw [← h2]; exact (lk_iff h1.keys _ _).2 ⟨r, hr, rfl, rfl⟩)
 cases add
 ·refine (mod_set key val w h1 H.low h3 hx).mono ?_
  rintro e w' ⟨he, hq, hf⟩
  refine ⟨he, hq.eqT (fun k => ?_), hf⟩
  simp [putT, upT, h2]
 ·refine (mod_add key val w h1 H.low h3 hx).mono ?_
  rintro e w' ⟨he, hq, hf⟩
  refine ⟨he, hq.eqT (fun k => ?_), hf⟩
  simp [putT, upT, h2]
set_option maxHeartbeats 400000 in
set_option maxRecDepth 100000 in
theorem hstr_call {B : Nat} {X : Nat → Prop} {m n : Nat} {T : ByteArray → Option (List ByteArray)} {w : World} (H : MapIn B X m n T w) (key : ByteArray) (add : Bool) (val : ByteArray) :
 Calls Tryz.prog 121 #[HV m key add, .string val] w (PutP B X m n (putT T key val add) w) := by
 replace H := Aside0.mk H
 unfold HV
 go_enter Tryz.func121, Tryz.ntmps121
 go_wp2_with fail
 have hb := below_alloc (Below.refl w.heap.size w) (.cells #[.map (some m), .string key, .bool add] 125)
 have hc := mod_call (H.out.calm hb) key val add
 unfold HV at hc
 refine hc.mono ?_
 rintro e w' ⟨rfl, h1, h2⟩
 go_wp2
 refine bodyPost_end (results_none rfl _ _ _) rfl ?_
 exact PutP.from hb ⟨rfl, h1, h2⟩ (fun _ _ h => h) H.out.low
set_option maxHeartbeats 400000 in
set_option maxRecDepth 100000 in
theorem hlong_call {B : Nat} {X : Nat → Prop} {m n : Nat} {T : ByteArray → Option (List ByteArray)} {w : World} (H : MapIn B X m n T w) (key : ByteArray) (add : Bool) (hT : Pow w) (v : Int) (h0 : -9223372036854775808 ≤ v) (h1 : v ≤ 9223372036854775807) :
 Calls Tryz.prog 119 #[HV m key add, .int .i64 v] w (PutP B X m n (putT T key (decS v) add) w) := by
 replace H := Aside0.mk H
 unfold HV
 go_enter Tryz.func119, Tryz.ntmps119
 go_wp2_with fail
 replace hT := Aside0.mk hT
 have hu := heap_new w (.cells #[.map (some m), .string key, .bool add] 125)
 have hb1 := below_alloc (Below.refl w.heap.size w) (.cells #[.map (some m), .string key, .bool add] 125)
 have H1 := Aside0.mk (H.out.also hb1 (Nat.le_refl _) (by simp))
 generalize w.alloc (.cells #[.map (some m), .string key, .bool add] 125) = w1 at *
 have hlow := Aside0.mk H.out.low
 replace hb1 := Aside0.mk hb1
 generalize hub : w.heap.size = ub at *
 have c0 := cell_at hu 0; have c1 := cell_at hu 1; have c2 := cell_at hu 2
 simp at c0 c1 c2
 replace hu := Aside0.mk hu
 have hin := fun (w : World) (val : ByteArray) (H : MapIn B (fun k => X k ∨ k = ub) m n T w) => mod_call H key val add
 unfold HV at hin
 replace hin := Aside0.mk hin
 go_region_held3 (fun w' => w'.cell? ⟨ub, 0, none⟩ = some (.map (some m)) ∧ w'.cell? ⟨ub, 1, none⟩ = some (.string key) ∧ w'.cell? ⟨ub, 2, none⟩ = some (.bool add)) (go_keep) (first | ((go_at_call 141; refine (fmtInt_call v h0 h1 _ ((hT.out.below (by rw [hub]; exact hb1.out)).below (below_drew (Below.refl _ _)))).mono ?_; rintro e w2 ⟨rfl, hb⟩; replace hb := undrew hb; have h := Fr.heap (Fr.of_below (S := fun _ => False) hb) hu.out (fun h => h); have e0 := cell_at h 0; have e1 := cell_at h 1; have e2 := cell_at h 2; simp at e0 e1 e2; replace h := Aside0.mk h; replace hb := Aside0.mk hb)) | ((go_at_call 144; refine (hin.out w2 _ (H1.out.calm hb.out)).mono ?_; rintro e w3 ⟨rfl, h2, h3⟩; have h4 := Fr.heap h3 h.out (fun hs => hs.2 (.inr rfl)); have g0 := cell_at h4 0; have g1 := cell_at h4 1; have g2 := cell_at h4 2; simp at g0 g1 g2)))
 go_wp2
 refine bodyPost_end (results_none rfl _ _ _) rfl ?_
 subst hub
 exact PutP.from (below_then hb1.out hb1.out.size hb.out) ⟨rfl, h2, h3⟩ (fun k _ hk => .inl hk) hlow.out
set_option maxHeartbeats 400000 in
set_option maxRecDepth 100000 in
theorem hbool_call {B : Nat} {X : Nat → Prop} {m n : Nat} {T : ByteArray → Option (List ByteArray)} {w : World} (H : MapIn B X m n T w) (key : ByteArray) (add : Bool) (b : Bool) :
 Calls Tryz.prog 115 #[HV m key add, .bool b] w (PutP B X m n (putT T key (boolS b) add) w) := by
 replace H := Aside0.mk H
 unfold HV
 go_enter Tryz.func115, Tryz.ntmps115
 go_wp2_with fail
 have hu := heap_new w (.cells #[.map (some m), .string key, .bool add] 125)
 have hb1 := below_alloc (Below.refl w.heap.size w) (.cells #[.map (some m), .string key, .bool add] 125)
 have H1 := Aside0.mk (H.out.also hb1 (Nat.le_refl _) (by simp))
 generalize w.alloc (.cells #[.map (some m), .string key, .bool add] 125) = w1 at *
 have hlow := Aside0.mk H.out.low
 replace hb1 := Aside0.mk hb1
 generalize hub : w.heap.size = ub at *
 have c0 := cell_at hu 0; have c1 := cell_at hu 1; have c2 := cell_at hu 2
 simp at c0 c1 c2
 replace hu := Aside0.mk hu
 have hin := fun (w : World) (val : ByteArray) (H : MapIn B (fun k => X k ∨ k = ub) m n T w) => mod_call H key val add
 unfold HV at hin
 replace hin := Aside0.mk hin
 go_region_held3 (fun w' => w'.cell? ⟨ub, 0, none⟩ = some (.map (some m)) ∧ w'.cell? ⟨ub, 1, none⟩ = some (.string key) ∧ w'.cell? ⟨ub, 2, none⟩ = some (.bool add)) (go_keep) (first | ((go_at_call 140; refine (fmtBool_call b _).mono ?_; rintro e w2 ⟨rfl, hd⟩; have hb := hd.below; clear hd; replace hb := undrew hb; have h := Fr.heap (Fr.of_below (S := fun _ => False) hb) hu.out (fun h => h); have e0 := cell_at h 0; have e1 := cell_at h 1; have e2 := cell_at h 2; simp at e0 e1 e2; replace h := Aside0.mk h; replace hb := Aside0.mk hb)) | ((go_at_call 144; refine (hin.out w2 _ (H1.out.calm hb.out)).mono ?_; rintro e w3 ⟨rfl, h2, h3⟩; have h4 := Fr.heap h3 h.out (fun hs => hs.2 (.inr rfl)); have g0 := cell_at h4 0; have g1 := cell_at h4 1; have g2 := cell_at h4 2; simp at g0 g1 g2)))
 go_wp2
 refine bodyPost_end (results_none rfl _ _ _) rfl ?_
 subst hub
 exact PutP.from (below_then hb1.out hb1.out.size hb.out) ⟨rfl, h2, h3⟩ (fun k _ hk => .inl hk) hlow.out
set_option maxHeartbeats 400000 in
set_option maxRecDepth 100000 in
theorem hi8_call {B : Nat} {X : Nat → Prop} {m n : Nat} {T : ByteArray → Option (List ByteArray)} {w : World} (H : MapIn B X m n T w) (key : ByteArray) (add : Bool) (hT : Pow w) (v : Int) (h0 : -128 ≤ v) (h1 : v ≤ 127) :
 Calls Tryz.prog 116 #[HV m key add, .int .i8 v] w (PutP B X m n (putT T key (decS v) add) w) := by
 replace H := Aside0.mk H
 unfold HV
 go_enter Tryz.func116, Tryz.ntmps116
 go_wp2_with fail
 replace hT := Aside0.mk hT
 have hb := below_alloc (Below.refl w.heap.size w) (.cells #[.map (some m), .string key, .bool add] 125)
 have hc := hlong_call (H.out.calm hb) key add (hT.out.below hb) v (by omega) (by omega)
 unfold HV at hc
 refine hc.mono ?_
 rintro e w' ⟨rfl, h1, h2⟩
 go_wp2
 refine bodyPost_end (results_none rfl _ _ _) rfl ?_
 exact PutP.from hb ⟨rfl, h1, h2⟩ (fun _ _ h => h) H.out.low
set_option maxHeartbeats 400000 in
set_option maxRecDepth 100000 in
theorem hi16_call {B : Nat} {X : Nat → Prop} {m n : Nat} {T : ByteArray → Option (List ByteArray)} {w : World} (H : MapIn B X m n T w) (key : ByteArray) (add : Bool) (hT : Pow w) (v : Int) (h0 : -32768 ≤ v) (h1 : v ≤ 32767) :
 Calls Tryz.prog 117 #[HV m key add, .int .i16 v] w (PutP B X m n (putT T key (decS v) add) w) := by
 replace H := Aside0.mk H
 unfold HV
 go_enter Tryz.func117, Tryz.ntmps117
 go_wp2_with fail
 replace hT := Aside0.mk hT
 have hb := below_alloc (Below.refl w.heap.size w) (.cells #[.map (some m), .string key, .bool add] 125)
 have hc := hlong_call (H.out.calm hb) key add (hT.out.below hb) v (by omega) (by omega)
 unfold HV at hc
 refine hc.mono ?_
 rintro e w' ⟨rfl, h1, h2⟩
 go_wp2
 refine bodyPost_end (results_none rfl _ _ _) rfl ?_
 exact PutP.from hb ⟨rfl, h1, h2⟩ (fun _ _ h => h) H.out.low
set_option maxHeartbeats 400000 in
set_option maxRecDepth 100000 in
theorem hi32_call {B : Nat} {X : Nat → Prop} {m n : Nat} {T : ByteArray → Option (List ByteArray)} {w : World} (H : MapIn B X m n T w) (key : ByteArray) (add : Bool) (hT : Pow w) (v : Int) (h0 : -2147483648 ≤ v) (h1 : v ≤ 2147483647) :
 Calls Tryz.prog 118 #[HV m key add, .int .i32 v] w (PutP B X m n (putT T key (decS v) add) w) := by
 replace H := Aside0.mk H
 unfold HV
 go_enter Tryz.func118, Tryz.ntmps118
 go_wp2_with fail
 replace hT := Aside0.mk hT
 have hb := below_alloc (Below.refl w.heap.size w) (.cells #[.map (some m), .string key, .bool add] 125)
 have hc := hlong_call (H.out.calm hb) key add (hT.out.below hb) v (by omega) (by omega)
 unfold HV at hc
 refine hc.mono ?_
 rintro e w' ⟨rfl, h1, h2⟩
 go_wp2
 refine bodyPost_end (results_none rfl _ _ _) rfl ?_
 exact PutP.from hb ⟨rfl, h1, h2⟩ (fun _ _ h => h) H.out.low
end HH
end Go.Proofs.YtclmjmfcggkpaaaGreatDoor
set_option linter.unusedVariables false
set_option linter.unusedSimpArgs false
namespace Go.Proofs.YtclmjmfcggkpaaaGreatDoor
open Go.RowKit Go.Proofs.YtclmjmfcggkpaaaGreatDoorW.PrintWords Go.Proofs.YtclmjmfcggkpaaaGreatDoorW.PrintLast Go.Proofs.YtclmjmfcggkpaaaGreatDoorW.PrintMore
open PX
namespace HH
open H
/-! ### A header of a number; where a field goes -/
theorem heap_below {w w' : World} (hb : Below w.heap.size w w') {k : Nat} {o : Obj} (h : w.heap[k]? = some o) : w'.heap[k]? = some o := (hb.block k (lt_of h)).trans h
def PutE (B : Nat) (X : Nat → Prop) (m n : Nat) (T : ByteArray → Option (List ByteArray)) (w : World) (e : Ending) (w' : World) : Prop :=
 e = .returned .nilIface ∧ HMq B X m (n + 1) T w' ∧ Fr (fun k => B ≤ k ∧ ¬ X k) w w'
def hkey (wh : Int) (pre key : ByteArray) : ByteArray := if 5 ≤ wh then pre ++ key else key
set_option maxHeartbeats 400000 in
set_option maxRecDepth 100000 in
theorem inHdr5 {B : Nat} {X : Nat → Prop} {m n : Nat} {T : ByteArray → Option (List ByteArray)} {w : World} (H : MapIn B X m n T w) (hT : Pow w) (key : ByteArray) (add : Bool) (text : ByteArray) (num : Int) (hn : -9223372036854775808 ≤ num ∧ num ≤ 9223372036854775807) (hs : text.size ≤ 2147483647) (wh : Int) (pre key' : ByteArray) :
 Calls Tryz.prog 75 #[HV m key add, FV wh pre key' 5 text num] w (PutP B X m n (putT T key (decS num) add) w) := by
 replace H := Aside0.mk H
 replace hT := Aside0.mk hT
 replace hn := Aside0.mk hn
 unfold HV FV
 go_enter Tryz.func75, Tryz.ntmps75
 go_wp2_with fail
 have hb := below_alloc (below_alloc (Below.refl w.heap.size w) (.cells #[.map (some m), .string key, .bool add] 125)) (.cells #[.int .i64 wh, .string pre, .string key', .int .i64 5, .string text, .int .i64 num] 48)
 have hsz : ((w.alloc (.cells #[.map (some m), .string key, .bool add] 125)).alloc (.cells #[.int .i64 wh, .string pre, .string key', .int .i64 5, .string text, .int .i64 num] 48)).heap.size = w.heap.size + 1 + 1 := by simp
 generalize (w.alloc (.cells #[.map (some m), .string key, .bool add] 125)).alloc (.cells #[.int .i64 wh, .string pre, .string key', .int .i64 5, .string text, .int .i64 num] 48) = w1 at *
 have hc := hlong_call (H.out.calm hb) key add (hT.out.below hb) num hn.out.1 hn.out.2
 unfold HV at hc
 refine hc.mono ?_
 rintro e w' ⟨rfl, h1, h2⟩
 go_wp2
 refine bodyPost_end (results_none rfl _ _ _) rfl ?_
 exact PutP.from hb ⟨rfl, h1, h2⟩ (fun _ _ h => h) H.out.low
end HH
end Go.Proofs.YtclmjmfcggkpaaaGreatDoor
set_option linter.unusedVariables false
set_option linter.unusedSimpArgs false
namespace Go.Proofs.YtclmjmfcggkpaaaGreatDoor
open Go.RowKit Go.Proofs.YtclmjmfcggkpaaaGreatDoorW.PrintWords Go.Proofs.YtclmjmfcggkpaaaGreatDoorW.PrintLast Go.Proofs.YtclmjmfcggkpaaaGreatDoorW.PrintMore
open PX
namespace HH
open H
/-! ### strings.TrimSpace of a text without spaces -/
def Spc (w : World) : Prop := ∀ c : Nat, 33 ≤ c → c < 127 → w.cell? ⟨0, c, none⟩ = some (.int .u8 0)
theorem Spc.lt {w : World} (h : Spc w) : 0 < w.heap.size := World.block_lt_of_cell? w _ (h 40 (by omega) (by omega))
theorem Spc.below {w w1 : World} (h : Spc w) {B : Nat} (hb : Below B w w1) (hB : 0 < B) : Spc w1 := fun c hc hd => by rw [hb.cell (p := ⟨0, c, none⟩) hB]; exact h c hc hd
theorem Spc.calm {w w1 : World} (h : Spc w) (hb : Below w.heap.size w w1) : Spc w1 := h.below hb h.lt
def noSp (s : ByteArray) : Prop := ∀ i : Nat, i < s.size → 33 ≤ bt s i ∧ bt s i < 127
set_option maxHeartbeats 1000000 in
set_option maxRecDepth 100000 in
theorem trim_call (s : ByteArray) (w : World) (hS : Spc w) (hn : noSp s) (hs : s.size ≤ 1099511627776) :
 Calls Tryz.prog 123 #[.string s] w fun e w' => e = .returned (.string s) ∧ Below w.heap.size w w' := by
 have hcv := fun (w : World) (s : ByteArray) => Lib.run_convert_string_bytes (P := Tryz.prog) w 9 104 5 s (u := .string) Tryz.underlying9 Tryz.underlying104 Tryz.underlying5
 replace hS := Aside0.mk hS
 go_enter Tryz.func123, Tryz.ntmps123
 go_wp2_with fail
 have hb1 := bytesWorld_below w s
 have ha1 := BAt.of_string w s
 rw [← strZs_length w s]
 have ht1 := strZs_take w s
 have hc1 : (strZs w s).length ≤ 9223372036854775807 := by rw [strZs_length]; have := grownCap_le_maxLen w s.size 0 5 (by unfold maxLen; omega); unfold maxLen at this; omega
 generalize strZs w s = z1 at *
 generalize Lib.bytesWorld w 5 s = w1 at *
 replace hb1 := Aside0.mk hb1
 rcases Nat.eq_zero_or_pos s.size with h0 | h0
 ·have he : s = ⟨#[]⟩ := by
   have hd : s.data.size = 0 := h0
   obtain ⟨d⟩ := s
   simp at hd
   rw [hd]
  refine wp_loop_rounds 1 ?_
  rw [rounds_succ]
  have hlt : ¬ ((0 : Int) < (s.size : Int)) := by omega
  go_wp2
  go_ret
  exact ⟨rfl, hb1.out⟩
 ·have hz : s.size ≤ z1.length := by
   have := congrArg List.length ht1
   simp [bytesOf_length] at this; omega
  have hx := ha1.cell 0 (by omega)
  have e0 : z1.getD 0 0 = bt s 0 := by
   have h1 : z1.getD 0 0 = (z1.take s.size).getD 0 0 := by
    rw [List.getD_eq_getElem?_getD, List.getD_eq_getElem?_getD, List.getElem?_take, if_pos (by omega)]
   rw [h1, ht1]
   exact rd_bytesOf s 0
  rw [e0] at hx
  have g0 : 33 ≤ bt s 0 ∧ bt s 0 < 127 := hn 0 h0
  have g1 := hn (s.size - 1) (by omega)
  have hS1 := hS.out.calm hb1.out
  have hy0 := hS1 (bt s 0).toNat (by omega) (by omega)
  have hlt1 : s.size - 1 < s.size := by omega
  have hbt : ((s[s.size - 1]'hlt1).toNat : Int) = bt s ((s.size - 1 : Nat) : Int) := bt_at s ((s.size - 1 : Nat) : Int) hlt1
  have q0 : bt s 0 < 128 := by omega
  have q1 : ((s[s.size - 1]'hlt1).toNat : Int) < 128 := by omega
  have q2 : (s[s.size - 1]'hlt1).toNat < 128 := by omega
  have q4 : (1 : Int) ≤ (s.size : Int) := by omega
  have hy1 := hS1 (s[s.size - 1]'hlt1).toNat (by omega) (by omega)
  clear hbt
  have hext : s.extract 0 s.size = s := by simp
  have htn : ((s.size : Int) - 1).toNat < s.size := by omega
  have ht2 : ((s.size : Int) - 1 + 1).toNat = s.size := by omega
  replace ha1 := Aside0.mk ha1
  clear hS1 ht1
  refine wp_loop_rounds 1 ?_
  rw [rounds_succ]
  go_wp2_with fail
  refine wp_loop_rounds 1 ?_
  rw [rounds_succ]
  go_wp2
  go_ret
  exact ⟨rfl, hb1.out⟩
end HH
end Go.Proofs.YtclmjmfcggkpaaaGreatDoor
