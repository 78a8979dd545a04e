import Derived.Test.YtclmjmfcggkpaaaGreatDoorU4
import Derived.Test.YtclmjmfcggkpaaaGreatDoorU17
import Derived.Test.YtclmjmfcggkpaaaGreatDoorU11
import Derived.Lib.SmallJoins
import Derived.Test.YtclmjmfcggkpaaaGreatDoorU15
import Derived.Deep.RegionHeld3
namespace Go.Proofs.YtclmjmfcggkpaaaGreatDoor.PX
open Go.RowKit Go.Proofs.YtclmjmfcggkpaaaGreatDoorW.PrintWords Go.Proofs.YtclmjmfcggkpaaaGreatDoorW.PrintLast Go.Proofs.YtclmjmfcggkpaaaGreatDoorW.PrintMore
attribute [local go_sem] max2_int min2_int max_two min_two max_three min_three max_four min_four   -- for this text's walks alone
set_option linter.unusedVariables false
set_option linter.unusedSimpArgs false

/-! ### strconv_FormatBool_165: function 165 -/
def strconv_FormatBool_165.f (a0 : Bool) : Option (ByteArray) := if a0 = true then (some (⟨#[116, 114, 117, 101]⟩ : ByteArray)) else (some (⟨#[102, 97, 108, 115, 101]⟩ : ByteArray))
set_option maxHeartbeats 8000000 in
set_option maxRecDepth 100000 in
theorem strconv_FormatBool_165.calls (a0 : Bool) (r : ByteArray) (w : World) (h : strconv_FormatBool_165.f a0 = some r) :
 Calls Tryz.prog 165 #[.bool a0] w fun e w' => e = .returned (.string r) ∧ Drawn0 w w' := by
 have H : (if a0 = true then (some (⟨#[116, 114, 117, 101]⟩ : ByteArray)) else (some (⟨#[102, 97, 108, 115, 101]⟩ : ByteArray))) = some r := h
 clear h
 by_cases c2 : a0 = true
 ·subst c2
  have H1 : (some (⟨#[116, 114, 117, 101]⟩ : ByteArray)) = some r := by rw [if_pos rfl] at H; exact H
  clear H
  have H := H1
  clear H1
  obtain rfl := Option.some.inj H
  go_enter Tryz.func165, Tryz.ntmps165
  go_wp2
  go_ret
  exact ⟨by first | rfl | (simp; done) | (simp [*]; done), by repeat (first | exact Drawn0.refl _ | apply Drawn0.step)⟩
 ·replace c2 := Bool.eq_false_iff.mpr c2
  subst c2
  have H1 : (some (⟨#[102, 97, 108, 115, 101]⟩ : ByteArray)) = some r := by rw [if_neg (show ¬ (false = true) by decide)] at H; exact H
  clear H
  have H := H1
  clear H1
  obtain rfl := Option.some.inj H
  go_enter Tryz.func165, Tryz.ntmps165
  go_wp2
  go_ret
  exact ⟨by first | rfl | (simp; done) | (simp [*]; done), by repeat (first | exact Drawn0.refl _ | apply Drawn0.step)⟩

end Go.Proofs.YtclmjmfcggkpaaaGreatDoor.PX
namespace Go.Proofs.YtclmjmfcggkpaaaGreatDoor.PX
open Go.RowKit Go.Proofs.YtclmjmfcggkpaaaGreatDoorW.PrintWords Go.Proofs.YtclmjmfcggkpaaaGreatDoorW.PrintLast Go.Proofs.YtclmjmfcggkpaaaGreatDoorW.PrintMore
attribute [local go_sem] max2_int min2_int max_two min_two max_three min_three max_four min_four   -- for this text's walks alone
set_option linter.unusedVariables false
set_option linter.unusedSimpArgs false

/-! ### strconv_FormatBool_140: function 140 -/
def strconv_FormatBool_140.f (a0 : Bool) : Option (ByteArray) := (strconv_FormatBool_165.f a0).bind fun t143 => (some t143)
set_option maxHeartbeats 8000000 in
set_option maxRecDepth 100000 in
theorem strconv_FormatBool_140.calls (a0 : Bool) (r : ByteArray) (w : World) (h : strconv_FormatBool_140.f a0 = some r) :
 Calls Tryz.prog 140 #[.bool a0] w fun e w' => e = .returned (.string r) ∧ Drawn0 w w' := by
 have H : ((strconv_FormatBool_165.f a0).bind fun t143 => (some t143)) = some r := h
 clear h
 replace H := Option.bind_eq_some_iff.mp H
 obtain ⟨t143, A20, H⟩ := H
 replace H : (some t143) = some r := H
 have A2 := Aside0.mk A20
 clear A20
 obtain rfl := Option.some.inj H
 go_enter Tryz.func140, Tryz.ntmps140
 go_wp2_with (first | ((with_reducible refine gate_callee (f := 165) rfl ?_); refine goesL_ (some 4) rfl rfl Tryz.func165 (by kernel_rfl) rfl #[.bool a0] rfl (by (try simp only [List.map_toArray, List.map_cons, List.map_nil]); rfl) ?_; (with_reducible refine (strconv_FormatBool_165.calls a0 t143 _ A2.out).mono ?_); rintro e w' ⟨rfl, ⟨nd, rfl⟩⟩; refine ⟨_, rfl, ?_⟩))
 go_ret
 exact ⟨by first | rfl | (simp; done) | (simp [*]; done), by repeat (first | exact Drawn0.refl _ | apply Drawn0.step)⟩

end Go.Proofs.YtclmjmfcggkpaaaGreatDoor.PX
set_option linter.unusedVariables false
set_option linter.unusedSimpArgs false
namespace Go.Proofs.YtclmjmfcggkpaaaGreatDoor
open Go.RowKit Go.Proofs.YtclmjmfcggkpaaaGreatDoorW.PrintWords Go.Proofs.YtclmjmfcggkpaaaGreatDoorW.PrintLast Go.Proofs.YtclmjmfcggkpaaaGreatDoorW.PrintMore
namespace H
/-! ### Values of a path by their kinds -/
def Pow (w : World) : Prop := Lib.TabIs Tryz.prog w "internal/strconv.uint64pow10" .u64 Lib.pow10Tab
theorem pow_at : (Tryz.prog.globalNamed "internal/strconv.uint64pow10").isSome = true := by kernel_rfl
theorem Pow.below {w w' : World} (h : Pow w) (hb : Below w.heap.size w w') : Pow w' := by
 obtain ⟨g, hg⟩ := Option.isSome_iff_exists.1 pow_at
 exact Go.Joins.tab_stays hg h hb (Nat.le_refl _)
theorem grow_below (w : World) (k : Nat) (os : Array Obj) : Below w.heap.size w (Go.Sort.grow (w.drewN k) os) :=
 ⟨rfl, rfl, rfl, by show _ ≤ (w.heap ++ os).size; simp, fun i hi => by show (w.heap ++ os)[i]? = _; rw [Array.getElem?_append_left hi]⟩
def decS (n : Int) : ByteArray := ⟨(Lib.itoa n).toArray⟩
theorem fmtInt_call (n : Int) (h0 : -9223372036854775808 ≤ n) (h1 : n ≤ 9223372036854775807) (w : World) (hT : Pow w) :
 Calls Tryz.prog 141 #[.int .i64 n, .int .i64 10] w fun e w' => e = .returned (.string (decS n)) ∧ Below w.heap.size w w' :=
 (Tryz.strconv_FormatInt_10 n h0 h1 w hT).mono fun e w' ⟨he, k, os, hw⟩ => ⟨he, by rw [hw]; exact grow_below w k os⟩
def boolS (b : Bool) : ByteArray := if b then ⟨#[116, 114, 117, 101]⟩ else ⟨#[102, 97, 108, 115, 101]⟩
theorem fmtBool_call (b : Bool) (w : World) : Calls Tryz.prog 140 #[.bool b] w fun e w' => e = .returned (.string (boolS b)) ∧ Drawn0 w w' :=
 PX.strconv_FormatBool_140.calls b _ w (by cases b <;> rfl)
/-- The text of a value of a kind. -/
def kindS (kind : Int) (text : ByteArray) (num : Int) : ByteArray :=
 if kind = 1 then boolS (num != 0) else if kind = 2 then decS (IntKind.i8.wrap num) else if kind = 3 then decS (IntKind.i16.wrap num) else if kind = 4 then decS (wrap32 num) else if kind = 5 then decS num else text
theorem i8_eq (n : Int) : IntKind.i8.wrap n = if 128 ≤ n % 256 then n % 256 - 256 else n % 256 := by simp [IntKind.wrap, IntKind.bits, IntKind.signed]
theorem i16_eq (n : Int) : IntKind.i16.wrap n = if 32768 ≤ n % 65536 then n % 65536 - 65536 else n % 65536 := by simp [IntKind.wrap, IntKind.bits, IntKind.signed]
theorem i8_rng (n : Int) : -128 ≤ IntKind.i8.wrap n ∧ IntKind.i8.wrap n ≤ 127 := by
 rw [i8_eq]
 by_cases h : 128 ≤ n % 256
 ·rw [if_pos h]; omega
 ·rw [if_neg h]; omega
theorem i16_rng (n : Int) : -32768 ≤ IntKind.i16.wrap n ∧ IntKind.i16.wrap n ≤ 32767 := by
 rw [i16_eq]
 by_cases h : 32768 ≤ n % 65536
 ·rw [if_pos h]; omega
 ·rw [if_neg h]; omega
theorem i32_rng (n : Int) : -2147483648 ≤ wrap32 n ∧ wrap32 n ≤ 2147483647 := by unfold wrap32; omega
end H
end Go.Proofs.YtclmjmfcggkpaaaGreatDoor
set_option linter.unusedVariables false
set_option linter.unusedSimpArgs false
namespace Go.Proofs.YtclmjmfcggkpaaaGreatDoor
open Go.RowKit Go.Proofs.YtclmjmfcggkpaaaGreatDoorW.PrintWords Go.Proofs.YtclmjmfcggkpaaaGreatDoorW.PrintLast Go.Proofs.YtclmjmfcggkpaaaGreatDoorW.PrintMore
open PX
open Go.ChangeMaps (setBlock)
namespace HH
open H
/-! ### The kinds of header values -/
def HV (m : Nat) (key : ByteArray) (add : Bool) : Value := .agg #[.map (some m), .string key, .bool add]
def putT (T : ByteArray → Option (List ByteArray)) (key val : ByteArray) (add : Bool) : ByteArray → Option (List ByteArray) := upT T key ((if add then (T key).getD [] else []) ++ [val])
def PutP (B : Nat) (X : Nat → Prop) (m n : Nat) (T : ByteArray → Option (List ByteArray)) (w : World) (e : Ending) (w' : World) : Prop :=
 e = .returned (.tuple #[]) ∧ HMq B X m (n + 1) T w' ∧ Fr (fun k => B ≤ k ∧ ¬ X k) w w'
theorem HMq.calm {B : Nat} {X : Nat → Prop} {m n : Nat} {T : ByteArray → Option (List ByteArray)} {w w' : World} (h : HMq B X m n T w) (hb : Below w.heap.size w w') : HMq B X m n T w' := by
 obtain ⟨rs, clock, h1, h2, h3⟩ := h.out
 exact ⟨rs, clock, h1.calm hb, h2, h3⟩
theorem HMq.re {B : Nat} {X X' : Nat → Prop} {m n : Nat} {T : ByteArray → Option (List ByteArray)} {w : World} (h : HMq B X m n T w) (hX : ∀ k, X' k → X k ∨ w.heap.size ≤ k) : HMq B X' m n T w := by
 obtain ⟨rs, clock, h1, h2, h3⟩ := h.out
 exact ⟨rs, clock, h1.reN hX, h2, h3⟩
theorem HMq.eqT {B : Nat} {X : Nat → Prop} {m n : Nat} {T T' : ByteArray → Option (List ByteArray)} {w : World} (h : HMq B X m n T w) (e : ∀ k, T k = T' k) : HMq B X m n T' w := by
 obtain ⟨rs, clock, h1, h2, h3⟩ := h.out
 exact ⟨rs, clock, h1, fun k => (h2 k).trans (e k), h3⟩
theorem PutP.from {B : Nat} {X X' : Nat → Prop} {m n : Nat} {T : ByteArray → Option (List ByteArray)} {w w1 w' : World} {e : Ending} (hb : Below w.heap.size w w1) (h : PutP B X' m n T w1 e w') (hX : ∀ k, k < w.heap.size → X k → X' k) (hlt : ∀ k, X k → k < w.heap.size) : PutP B X m n T w e w' := by
 obtain ⟨h1, h2, h3⟩ := h
 refine ⟨h1, h2.re (fun k hk => .inl (hX k (hlt k hk) hk)), (Fr.of_below (S := fun k => B ≤ k ∧ ¬ X k) hb).trans h3 (fun k hk hs => ⟨hs.1, fun hx => hs.2 (hX k hk hx)⟩)⟩
structure MapIn (B : Nat) (X : Nat → Prop) (m n : Nat) (T : ByteArray → Option (List ByteArray)) (w : World) : Prop where
 map : HMq B X m n T w
 low : ∀ k, X k → k < w.heap.size
 short : ∀ k x, T k = some x → x.length ≤ 1000000
theorem MapIn.calm {B : Nat} {X : Nat → Prop} {m n : Nat} {T : ByteArray → Option (List ByteArray)} {w w' : World} (h : MapIn B X m n T w) (hb : Below w.heap.size w w') : MapIn B X m n T w' :=
 ⟨h.map.calm hb, fun k hk => by have := h.low k hk; have := hb.size; omega, h.short⟩
/-- .. a block besides that is to stay. -/
theorem MapIn.also {B : Nat} {X : Nat → Prop} {m n : Nat} {T : ByteArray → Option (List ByteArray)} {w w' : World} (h : MapIn B X m n T w) (hb : Below w.heap.size w w') {g : Nat} (hg : w.heap.size ≤ g) (hg' : g < w'.heap.size) : MapIn B (fun k => X k ∨ k = g) m n T w' := by
 have h1 := h.map.re (X' := fun k => X k ∨ k = g) (fun k hk => by rcases hk with hk | hk; exact .inl hk; exact .inr (by omega))
 refine ⟨h1.calm hb, fun k hk => ?_, h.short⟩
 rcases hk with hk | hk
 ·have := h.low k hk; have := hb.size; omega
 ·omega
theorem undrew {w w' : World} (h : Below w.drew.heap.size w.drew w') : Below w.heap.size w w' := ⟨h.os, h.tape, h.output, h.size, h.block⟩
theorem mod_call {B : Nat} {X : Nat → Prop} {m n : Nat} {T : ByteArray → Option (List ByteArray)} {w : World} (H : MapIn B X m n T w) (key val : ByteArray) (add : Bool) :
 Calls Tryz.prog 144 #[HV m key add, .string val] w (PutP B X m n (putT T key val add) w) := by
 obtain ⟨rs, clock, h1, h2, h3⟩ := H.map.out
 have hx : ∀ r ∈ rs, r.xs.length ≤ 1000000 := fun r hr => H.short r.key r.xs (by rw [← h2]; exact (lk_iff h1.keys _ _).2 ⟨r, hr, rfl, rfl⟩)
 cases add
 ·refine (mod_set key val w h1 H.low h3 hx).mono ?_
  rintro e w' ⟨he, hq, hf⟩
  refine ⟨he, hq.eqT (fun k => ?_), hf⟩
  simp [putT, upT, h2]
 ·refine (mod_add key val w h1 H.low h3 hx).mono ?_
  rintro e w' ⟨he, hq, hf⟩
  refine ⟨he, hq.eqT (fun k => ?_), hf⟩
  simp [putT, upT, h2]
set_option maxHeartbeats 400000 in
set_option maxRecDepth 100000 in
theorem hstr_call {B : Nat} {X : Nat → Prop} {m n : Nat} {T : ByteArray → Option (List ByteArray)} {w : World} (H : MapIn B X m n T w) (key : ByteArray) (add : Bool) (val : ByteArray) :
 Calls Tryz.prog 121 #[HV m key add, .string val] w (PutP B X m n (putT T key val add) w) := by
 replace H := Aside0.mk H
 unfold HV
 go_enter Tryz.func121, Tryz.ntmps121
 go_wp2_with fail
 have hb := below_alloc (Below.refl w.heap.size w) (.cells #[.map (some m), .string key, .bool add] 125)
 have hc := mod_call (H.out.calm hb) key val add
 unfold HV at hc
 refine hc.mono ?_
 rintro e w' ⟨rfl, h1, h2⟩
 go_wp2
 refine bodyPost_end (results_none rfl _ _ _) rfl ?_
 exact PutP.from hb ⟨rfl, h1, h2⟩ (fun _ _ h => h) H.out.low
set_option maxHeartbeats 400000 in
set_option maxRecDepth 100000 in
theorem hlong_call {B : Nat} {X : Nat → Prop} {m n : Nat} {T : ByteArray → Option (List ByteArray)} {w : World} (H : MapIn B X m n T w) (key : ByteArray) (add : Bool) (hT : Pow w) (v : Int) (h0 : -9223372036854775808 ≤ v) (h1 : v ≤ 9223372036854775807) :
 Calls Tryz.prog 119 #[HV m key add, .int .i64 v] w (PutP B X m n (putT T key (decS v) add) w) := by
 replace H := Aside0.mk H
 unfold HV
 go_enter Tryz.func119, Tryz.ntmps119
 go_wp2_with fail
 replace hT := Aside0.mk hT
 have hu := heap_new w (.cells #[.map (some m), .string key, .bool add] 125)
 have hb1 := below_alloc (Below.refl w.heap.size w) (.cells #[.map (some m), .string key, .bool add] 125)
 have H1 := Aside0.mk (H.out.also hb1 (Nat.le_refl _) (by simp))
 generalize w.alloc (.cells #[.map (some m), .string key, .bool add] 125) = w1 at *
 have hlow := Aside0.mk H.out.low
 replace hb1 := Aside0.mk hb1
 generalize hub : w.heap.size = ub at *
 have c0 := cell_at hu 0; have c1 := cell_at hu 1; have c2 := cell_at hu 2
 simp at c0 c1 c2
 replace hu := Aside0.mk hu
 have hin := fun (w : World) (val : ByteArray) (H : MapIn B (fun k => X k ∨ k = ub) m n T w) => mod_call H key val add
 unfold HV at hin
 replace hin := Aside0.mk hin
 go_region_held3 (fun w' => w'.cell? ⟨ub, 0, none⟩ = some (.map (some m)) ∧ w'.cell? ⟨ub, 1, none⟩ = some (.string key) ∧ w'.cell? ⟨ub, 2, none⟩ = some (.bool add)) (go_keep) (first | ((go_at_call 141; refine (fmtInt_call v h0 h1 _ ((hT.out.below (by rw [hub]; exact hb1.out)).below (below_drew (Below.refl _ _)))).mono ?_; rintro e w2 ⟨rfl, hb⟩; replace hb := undrew hb; have h := Fr.heap (Fr.of_below (S := fun _ => False) hb) hu.out (fun h => h); have e0 := cell_at h 0; have e1 := cell_at h 1; have e2 := cell_at h 2; simp at e0 e1 e2; replace h := Aside0.mk h; replace hb := Aside0.mk hb)) | ((go_at_call 144; refine (hin.out w2 _ (H1.out.calm hb.out)).mono ?_; rintro e w3 ⟨rfl, h2, h3⟩; have h4 := Fr.heap h3 h.out (fun hs => hs.2 (.inr rfl)); have g0 := cell_at h4 0; have g1 := cell_at h4 1; have g2 := cell_at h4 2; simp at g0 g1 g2)))
 go_wp2
 refine bodyPost_end (results_none rfl _ _ _) rfl ?_
 subst hub
 exact PutP.from (below_then hb1.out hb1.out.size hb.out) ⟨rfl, h2, h3⟩ (fun k _ hk => .inl hk) hlow.out
set_option maxHeartbeats 400000 in
set_option maxRecDepth 100000 in
theorem hbool_call {B : Nat} {X : Nat → Prop} {m n : Nat} {T : ByteArray → Option (List ByteArray)} {w : World} (H : MapIn B X m n T w) (key : ByteArray) (add : Bool) (b : Bool) :
 Calls Tryz.prog 115 #[HV m key add, .bool b] w (PutP B X m n (putT T key (boolS b) add) w) := by
 replace H := Aside0.mk H
 unfold HV
 go_enter Tryz.func115, Tryz.ntmps115
 go_wp2_with fail
 have hu := heap_new w (.cells #[.map (some m), .string key, .bool add] 125)
 have hb1 := below_alloc (Below.refl w.heap.size w) (.cells #[.map (some m), .string key, .bool add] 125)
 have H1 := Aside0.mk (H.out.also hb1 (Nat.le_refl _) (by simp))
 generalize w.alloc (.cells #[.map (some m), .string key, .bool add] 125) = w1 at *
 have hlow := Aside0.mk H.out.low
 replace hb1 := Aside0.mk hb1
 generalize hub : w.heap.size = ub at *
 have c0 := cell_at hu 0; have c1 := cell_at hu 1; have c2 := cell_at hu 2
 simp at c0 c1 c2
 replace hu := Aside0.mk hu
 have hin := fun (w : World) (val : ByteArray) (H : MapIn B (fun k => X k ∨ k = ub) m n T w) => mod_call H key val add
 unfold HV at hin
 replace hin := Aside0.mk hin
 go_region_held3 (fun w' => w'.cell? ⟨ub, 0, none⟩ = some (.map (some m)) ∧ w'.cell? ⟨ub, 1, none⟩ = some (.string key) ∧ w'.cell? ⟨ub, 2, none⟩ = some (.bool add)) (go_keep) (first | ((go_at_call 140; refine (fmtBool_call b _).mono ?_; rintro e w2 ⟨rfl, hd⟩; have hb := hd.below; clear hd; replace hb := undrew hb; have h := Fr.heap (Fr.of_below (S := fun _ => False) hb) hu.out (fun h => h); have e0 := cell_at h 0; have e1 := cell_at h 1; have e2 := cell_at h 2; simp at e0 e1 e2; replace h := Aside0.mk h; replace hb := Aside0.mk hb)) | ((go_at_call 144; refine (hin.out w2 _ (H1.out.calm hb.out)).mono ?_; rintro e w3 ⟨rfl, h2, h3⟩; have h4 := Fr.heap h3 h.out (fun hs => hs.2 (.inr rfl)); have g0 := cell_at h4 0; have g1 := cell_at h4 1; have g2 := cell_at h4 2; simp at g0 g1 g2)))
 go_wp2
 refine bodyPost_end (results_none rfl _ _ _) rfl ?_
 subst hub
 exact PutP.from (below_then hb1.out hb1.out.size hb.out) ⟨rfl, h2, h3⟩ (fun k _ hk => .inl hk) hlow.out
set_option maxHeartbeats 400000 in
set_option maxRecDepth 100000 in
theorem hi8_call {B : Nat} {X : Nat → Prop} {m n : Nat} {T : ByteArray → Option (List ByteArray)} {w : World} (H : MapIn B X m n T w) (key : ByteArray) (add : Bool) (hT : Pow w) (v : Int) (h0 : -128 ≤ v) (h1 : v ≤ 127) :
 Calls Tryz.prog 116 #[HV m key add, .int .i8 v] w (PutP B X m n (putT T key (decS v) add) w) := by
 replace H := Aside0.mk H
 unfold HV
 go_enter Tryz.func116, Tryz.ntmps116
 go_wp2_with fail
 replace hT := Aside0.mk hT
 have hb := below_alloc (Below.refl w.heap.size w) (.cells #[.map (some m), .string key, .bool add] 125)
 have hc := hlong_call (H.out.calm hb) key add (hT.out.below hb) v (by omega) (by omega)
 unfold HV at hc
 refine hc.mono ?_
 rintro e w' ⟨rfl, h1, h2⟩
 go_wp2
 refine bodyPost_end (results_none rfl _ _ _) rfl ?_
 exact PutP.from hb ⟨rfl, h1, h2⟩ (fun _ _ h => h) H.out.low
set_option maxHeartbeats 400000 in
set_option maxRecDepth 100000 in
theorem hi16_call {B : Nat} {X : Nat → Prop} {m n : Nat} {T : ByteArray → Option (List ByteArray)} {w : World} (H : MapIn B X m n T w) (key : ByteArray) (add : Bool) (hT : Pow w) (v : Int) (h0 : -32768 ≤ v) (h1 : v ≤ 32767) :
 Calls Tryz.prog 117 #[HV m key add, .int .i16 v] w (PutP B X m n (putT T key (decS v) add) w) := by
 replace H := Aside0.mk H
 unfold HV
 go_enter Tryz.func117, Tryz.ntmps117
 go_wp2_with fail
 replace hT := Aside0.mk hT
 have hb := below_alloc (Below.refl w.heap.size w) (.cells #[.map (some m), .string key, .bool add] 125)
 have hc := hlong_call (H.out.calm hb) key add (hT.out.below hb) v (by omega) (by omega)
 unfold HV at hc
 refine hc.mono ?_
 rintro e w' ⟨rfl, h1, h2⟩
 go_wp2
 refine bodyPost_end (results_none rfl _ _ _) rfl ?_
 exact PutP.from hb ⟨rfl, h1, h2⟩ (fun _ _ h => h) H.out.low
set_option maxHeartbeats 400000 in
set_option maxRecDepth 100000 in
theorem hi32_call {B : Nat} {X : Nat → Prop} {m n : Nat} {T : ByteArray → Option (List ByteArray)} {w : World} (H : MapIn B X m n T w) (key : ByteArray) (add : Bool) (hT : Pow w) (v : Int) (h0 : -2147483648 ≤ v) (h1 : v ≤ 2147483647) :
 Calls Tryz.prog 118 #[HV m key add, .int .i32 v] w (PutP B X m n (putT T key (decS v) add) w) := by
 replace H := Aside0.mk H
 unfold HV
 go_enter Tryz.func118, Tryz.ntmps118
 go_wp2_with fail
 replace hT := Aside0.mk hT
 have hb := below_alloc (Below.refl w.heap.size w) (.cells #[.map (some m), .string key, .bool add] 125)
 have hc := hlong_call (H.out.calm hb) key add (hT.out.below hb) v (by omega) (by omega)
 unfold HV at hc
 refine hc.mono ?_
 rintro e w' ⟨rfl, h1, h2⟩
 go_wp2
 refine bodyPost_end (results_none rfl _ _ _) rfl ?_
 exact PutP.from hb ⟨rfl, h1, h2⟩ (fun _ _ h => h) H.out.low
end HH
end Go.Proofs.YtclmjmfcggkpaaaGreatDoor
