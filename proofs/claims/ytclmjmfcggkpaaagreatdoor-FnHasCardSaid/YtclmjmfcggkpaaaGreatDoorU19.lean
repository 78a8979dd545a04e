import Derived.Test.YtclmjmfcggkpaaaGreatDoorU14
import Derived.Test.YtclmjmfcggkpaaaGreatDoorU18
set_option linter.unusedVariables false
set_option linter.unusedSimpArgs false
namespace Go.Proofs.YtclmjmfcggkpaaaGreatDoor
open Go.RowKit Go.Proofs.YtclmjmfcggkpaaaGreatDoorW.PrintWords Go.Proofs.YtclmjmfcggkpaaaGreatDoorW.PrintLast Go.Proofs.YtclmjmfcggkpaaaGreatDoorW.PrintMore
open PX
open Go.ChangeMaps (setBlock)
namespace HH
open H
/-! ### url.Values: Set, Add -/
theorem one_row (W : World) (val : ByteArray) : Kd.string.R 9 (W.alloc (.cells #[.string val] 9)) W.heap.size (fun k => W.heap.size ≤ k) (.slice (some ⟨W.heap.size, 0, none⟩) 1 1) [val] := by
 have h2 := World.ownsRow_lit (base := W.heap.size) (e := 9) (size := 1) W #[.string val] 1 (Nat.le_refl _) (by simp [maxLen]) (by simp)
 exact Kd.R_of_own (enc := Value.string) (xs := [val]) (by simpa [encs] using h2) (fun k hk => by
  have : W.heap.size = k := by simpa [Value.ownBlock] using hk
  omega)
set_option maxHeartbeats 1000000 in
set_option maxRecDepth 100000 in
theorem qset_call {B m n : Nat} {X : Nat → Prop} {T : ByteArray → Option (List ByteArray)} {w : World} (H : MapIn B X m n T w) (key val : ByteArray) :
 Calls Tryz.prog 168 #[.map (some m), .string key, .string val] w (PutP B X m n (putT T key val false) w) := by
 obtain ⟨rs, clock, h1, h2, h3⟩ := H.map.out
 obtain ⟨v, xs, hL⟩ := look_ex rs key
 have hb := below_alloc (Below.refl w.heap.size w) (.cells #[.string val] 9)
 have hg := grown_of_below hb v.ownBlock
 have hR : Kd.string.R 9 (w.alloc (.cells #[.string val] 9)) B (fun k => ¬ X k) (.slice (some ⟨w.heap.size, 0, none⟩) 1 1) [val] := Kd.R_reok (by rfl) (Kd.R_lower (one_row w val) (by have := h1.geB; have := h1.lt; omega)) (fun k hk hX => by
  have h4 : w.heap.size = k := by simpa [Value.ownBlock] using hk
  have := H.low k hX
  omega)
 obtain ⟨W3, hup, hq, hf, hsame⟩ := hL.putQ h1 h3 hg hR (.inr ⟨w.heap.size, rfl, Nat.le_refl _⟩)
 replace hL := Aside0.mk hL
 replace hR := Aside0.mk hR
 replace hg := Aside0.mk hg
 go_enter Tryz.func168, Tryz.ntmps168
 go_wp2_with fail
 refine bodyPost_end (results_none rfl _ _ _) rfl ?_
 exact ⟨rfl, hq.eqT (fun k => by simp [putT, upT, h2]), hf⟩
set_option maxHeartbeats 1000000 in
set_option maxRecDepth 100000 in
theorem qadd_call {B m n : Nat} {X : Nat → Prop} {T : ByteArray → Option (List ByteArray)} {w : World} (H : MapIn B X m n T w) (key val : ByteArray) :
 Calls Tryz.prog 167 #[.map (some m), .string key, .string val] w (PutP B X m n (putT T key val true) w) := by
 obtain ⟨rs, clock, h1, h2, h3⟩ := H.map.out
 have hx : ∀ r ∈ rs, r.xs.length ≤ 1000000 := fun r hr => H.short r.key r.xs (by rw [← h2]; exact (lk_iff h1.keys _ _).2 ⟨r, hr, rfl, rfl⟩)
 obtain ⟨v, xs, hL⟩ := look_ex rs key
 have hxs := hL.lk h1.keys
 have hlen := hL.len hx
 have hlook := hL.runQ h1.keys h1.obj
 have hrow := hL.row h1
 have hgB := h1.geB
 have hlt := h1.lt
 replace hL := Aside0.mk hL
 replace hrow := Aside0.mk hrow
 replace hxs := Aside0.mk hxs
 replace hlen := Aside0.mk hlen
 have hlow := Aside0.mk H.low
 have hg3 := Aside0.mk h3
 go_enter Tryz.func167, Tryz.ntmps167
 go_wp2_with ((with_reducible refine gate_builtin (b := .append) (xs := #[.tmp 10, .tmp 12]) rfl ?_); at_builtin; refine Kd.R_append Kd.string (w0 := w) B rfl (.tmp 10) (.tmp 12) 67 9 (.string ⟨#[]⟩) 16 rfl Tryz.underlying67 inf9 rfl (by decide) (by omega) v xs val [.string val] (fun k => ¬ X k) (fun _ => False) rfl rfl rfl (fun _ hk => hk.elim) (fun k hk hX => by have := hlow.out k hX; omega) hrow.out (Below.refl _ _) (by omega) (by have := hlen.out; omega) ?_; intro v1 w2 hR2 hb2 hg2 hat2; obtain ⟨W3, hup, hq, hf, hsame⟩ := hL.out.putQ h1 hg3.out hg2 hR2 hat2; replace hR2 := Aside0.mk hR2; replace hg2 := Aside0.mk hg2; replace hat2 := Aside0.mk hat2; replace hq := Aside0.mk hq; replace hf := Aside0.mk hf)
 refine bodyPost_end (results_none rfl _ _ _) rfl ?_
 refine ⟨rfl, hq.out.eqT (fun k => ?_), hf.out⟩
 rw [hxs.out]
 unfold putT upT
 rw [if_pos rfl]
 by_cases hk : key = k
 ·subst hk; rw [if_pos rfl, if_pos rfl, h2]
 ·rw [if_neg hk, if_neg hk]; exact h2 k
def QV (m : Nat) (key : ByteArray) (add : Bool) : Value := .agg #[.map (some m), .string key, .bool add]
set_option maxHeartbeats 1000000 in
set_option maxRecDepth 100000 in
theorem upd_call {B : Nat} {X : Nat → Prop} {m n : Nat} {T : ByteArray → Option (List ByteArray)} {w : World} (H : MapIn B X m n T w) (key val : ByteArray) (add : Bool) :
 Calls Tryz.prog 142 #[QV m key add, .string val] w (PutP B X m n (putT T key val add) w) := by
 replace H := Aside0.mk H
 unfold QV
 cases add
 ·go_enter Tryz.func142, Tryz.ntmps142
  go_wp2_with fail
  have hb := below_alloc (Below.refl w.heap.size w) (.cells #[.map (some m), .string key, .bool false] 121)
  refine (qset_call (H.out.calm hb) key val).mono ?_
  rintro e w' ⟨rfl, h1, h2⟩
  go_wp2
  refine bodyPost_end (results_none rfl _ _ _) rfl ?_
  exact PutP.from hb ⟨rfl, h1, h2⟩ (fun _ _ h => h) H.out.low
 ·go_enter Tryz.func142, Tryz.ntmps142
  go_wp2_with fail
  have hb := below_alloc (Below.refl w.heap.size w) (.cells #[.map (some m), .string key, .bool true] 121)
  refine (qadd_call (H.out.calm hb) key val).mono ?_
  rintro e w' ⟨rfl, h1, h2⟩
  go_wp2
  refine bodyPost_end (results_none rfl _ _ _) rfl ?_
  exact PutP.from hb ⟨rfl, h1, h2⟩ (fun _ _ h => h) H.out.low
end HH
end Go.Proofs.YtclmjmfcggkpaaaGreatDoor
set_option linter.unusedVariables false
set_option linter.unusedSimpArgs false
namespace Go.Proofs.YtclmjmfcggkpaaaGreatDoor
open Go.RowKit Go.Proofs.YtclmjmfcggkpaaaGreatDoorW.PrintWords Go.Proofs.YtclmjmfcggkpaaaGreatDoorW.PrintLast Go.Proofs.YtclmjmfcggkpaaaGreatDoorW.PrintMore
open PX
namespace HH
open H
/-! ### A header of a number; where a field goes -/
theorem heap_below {w w' : World} (hb : Below w.heap.size w w') {k : Nat} {o : Obj} (h : w.heap[k]? = some o) : w'.heap[k]? = some o := (hb.block k (lt_of h)).trans h
def PutE (B : Nat) (X : Nat → Prop) (m n : Nat) (T : ByteArray → Option (List ByteArray)) (w : World) (e : Ending) (w' : World) : Prop :=
 e = .returned .nilIface ∧ HMq B X m (n + 1) T w' ∧ Fr (fun k => B ≤ k ∧ ¬ X k) w w'
def hkey (wh : Int) (pre key : ByteArray) : ByteArray := if 5 ≤ wh then pre ++ key else key
set_option maxHeartbeats 400000 in
set_option maxRecDepth 100000 in
theorem inHdr5 {B : Nat} {X : Nat → Prop} {m n : Nat} {T : ByteArray → Option (List ByteArray)} {w : World} (H : MapIn B X m n T w) (hT : Pow w) (key : ByteArray) (add : Bool) (text : ByteArray) (num : Int) (hn : -9223372036854775808 ≤ num ∧ num ≤ 9223372036854775807) (hs : text.size ≤ 2147483647) (wh : Int) (pre key' : ByteArray) :
 Calls Tryz.prog 75 #[HV m key add, FV wh pre key' 5 text num] w (PutP B X m n (putT T key (decS num) add) w) := by
 replace H := Aside0.mk H
 replace hT := Aside0.mk hT
 replace hn := Aside0.mk hn
 unfold HV FV
 go_enter Tryz.func75, Tryz.ntmps75
 go_wp2_with fail
 have hb := below_alloc (below_alloc (Below.refl w.heap.size w) (.cells #[.map (some m), .string key, .bool add] 125)) (.cells #[.int .i64 wh, .string pre, .string key', .int .i64 5, .string text, .int .i64 num] 48)
 have hsz : ((w.alloc (.cells #[.map (some m), .string key, .bool add] 125)).alloc (.cells #[.int .i64 wh, .string pre, .string key', .int .i64 5, .string text, .int .i64 num] 48)).heap.size = w.heap.size + 1 + 1 := by simp
 generalize (w.alloc (.cells #[.map (some m), .string key, .bool add] 125)).alloc (.cells #[.int .i64 wh, .string pre, .string key', .int .i64 5, .string text, .int .i64 num] 48) = w1 at *
 have hc := hlong_call (H.out.calm hb) key add (hT.out.below hb) num hn.out.1 hn.out.2
 unfold HV at hc
 refine hc.mono ?_
 rintro e w' ⟨rfl, h1, h2⟩
 go_wp2
 refine bodyPost_end (results_none rfl _ _ _) rfl ?_
 exact PutP.from hb ⟨rfl, h1, h2⟩ (fun _ _ h => h) H.out.low
end HH
end Go.Proofs.YtclmjmfcggkpaaaGreatDoor
