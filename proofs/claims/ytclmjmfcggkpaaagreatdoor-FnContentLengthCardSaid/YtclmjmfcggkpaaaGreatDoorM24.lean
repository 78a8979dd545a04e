import Derived.Test.YtclmjmfcggkpaaaGreatDoorM6
import Derived.Test.YtclmjmfcggkpaaaGreatDoorM23
import Derived.Test.YtclmjmfcggkpaaaGreatDoorM15
import Derived.Lib.SmallJoins
import Derived.Test.YtclmjmfcggkpaaaGreatDoorM21
import Derived.Deep.RegionHeld3
namespace Go.Proofs.YtclmjmfcggkpaaaGreatDoor.PX
open Go.RowKit Go.Proofs.YtclmjmfcggkpaaaGreatDoorW.PrintWords Go.Proofs.YtclmjmfcggkpaaaGreatDoorW.PrintLast Go.Proofs.YtclmjmfcggkpaaaGreatDoorW.PrintMore
attribute [local go_sem] max2_int min2_int max_two min_two max_three min_three max_four min_four   -- for this text's walks alone
set_option linter.unusedVariables false
set_option linter.unusedSimpArgs false

/-! ### strconv_FormatBool_165: function 165 -/
end Go.Proofs.YtclmjmfcggkpaaaGreatDoor.PX
namespace Go.Proofs.YtclmjmfcggkpaaaGreatDoor.PX
open Go.RowKit Go.Proofs.YtclmjmfcggkpaaaGreatDoorW.PrintWords Go.Proofs.YtclmjmfcggkpaaaGreatDoorW.PrintLast Go.Proofs.YtclmjmfcggkpaaaGreatDoorW.PrintMore
attribute [local go_sem] max2_int min2_int max_two min_two max_three min_three max_four min_four   -- for this text's walks alone
set_option linter.unusedVariables false
set_option linter.unusedSimpArgs false

/-! ### strconv_FormatBool_140: function 140 -/
end Go.Proofs.YtclmjmfcggkpaaaGreatDoor.PX
set_option linter.unusedVariables false
set_option linter.unusedSimpArgs false
namespace Go.Proofs.YtclmjmfcggkpaaaGreatDoor
open Go.RowKit Go.Proofs.YtclmjmfcggkpaaaGreatDoorW.PrintWords Go.Proofs.YtclmjmfcggkpaaaGreatDoorW.PrintLast Go.Proofs.YtclmjmfcggkpaaaGreatDoorW.PrintMore
namespace H
/-! ### Values of a path by their kinds -/
def Pow (w : World) : Prop := Lib.TabIs Tryz.prog w "internal/strconv.uint64pow10" .u64 Lib.pow10Tab
theorem pow_at : (Tryz.prog.globalNamed "internal/strconv.uint64pow10").isSome = true := by kernel_rfl
theorem Pow.below {w w' : World} (h : Pow w) (hb : Below w.heap.size w w') : Pow w' := by
  obtain ⟨g, hg⟩ := Option.isSome_iff_exists.1 pow_at
  exact Go.Joins.tab_stays hg h hb (Nat.le_refl _)
theorem grow_below (w : World) (k : Nat) (os : Array Obj) : Below w.heap.size w (Go.Sort.grow (w.drewN k) os) :=
  ⟨rfl, rfl, rfl, by show _ ≤ (w.heap ++ os).size; simp, fun i hi => by show (w.heap ++ os)[i]? = _; rw [Array.getElem?_append_left hi]⟩
def decS (n : Int) : ByteArray := ⟨(Lib.itoa n).toArray⟩
theorem fmtInt_call (n : Int) (h0 : -9223372036854775808 ≤ n) (h1 : n ≤ 9223372036854775807) (w : World) (hT : Pow w) :
    Calls Tryz.prog 141 #[.int .i64 n, .int .i64 10] w fun e w' => e = .returned (.string (decS n)) ∧ Below w.heap.size w w' :=
  (Tryz.strconv_FormatInt_10 n h0 h1 w hT).mono fun e w' ⟨he, k, os, hw⟩ => ⟨he, by rw [hw]; exact grow_below w k os⟩
end H
end Go.Proofs.YtclmjmfcggkpaaaGreatDoor
set_option linter.unusedVariables false
set_option linter.unusedSimpArgs false
namespace Go.Proofs.YtclmjmfcggkpaaaGreatDoor
open Go.RowKit Go.Proofs.YtclmjmfcggkpaaaGreatDoorW.PrintWords Go.Proofs.YtclmjmfcggkpaaaGreatDoorW.PrintLast Go.Proofs.YtclmjmfcggkpaaaGreatDoorW.PrintMore
open PX
open Go.ChangeMaps (setBlock)
namespace HH
open H
/-! ### The kinds of header values -/
def HV (m : Nat) (key : ByteArray) (add : Bool) : Value := .agg #[.map (some m), .string key, .bool add]
def putT (T : ByteArray → Option (List ByteArray)) (key val : ByteArray) (add : Bool) : ByteArray → Option (List ByteArray) := upT T key ((if add then (T key).getD [] else []) ++ [val])
def PutP (B : Nat) (X : Nat → Prop) (m n : Nat) (T : ByteArray → Option (List ByteArray)) (w : World) (e : Ending) (w' : World) : Prop :=
  e = .returned (.tuple #[]) ∧ HMq B X m (n + 1) T w' ∧ Fr (fun k => B ≤ k ∧ ¬ X k) w w'
theorem HMq.calm {B : Nat} {X : Nat → Prop} {m n : Nat} {T : ByteArray → Option (List ByteArray)} {w w' : World} (h : HMq B X m n T w) (hb : Below w.heap.size w w') : HMq B X m n T w' := by
  obtain ⟨rs, clock, h1, h2, h3⟩ := h.out
  exact ⟨rs, clock, h1.calm hb, h2, h3⟩
theorem HMq.re {B : Nat} {X X' : Nat → Prop} {m n : Nat} {T : ByteArray → Option (List ByteArray)} {w : World} (h : HMq B X m n T w) (hX : ∀ k, X' k → X k ∨ w.heap.size ≤ k) : HMq B X' m n T w := by
  obtain ⟨rs, clock, h1, h2, h3⟩ := h.out
  exact ⟨rs, clock, h1.reN hX, h2, h3⟩
theorem HMq.eqT {B : Nat} {X : Nat → Prop} {m n : Nat} {T T' : ByteArray → Option (List ByteArray)} {w : World} (h : HMq B X m n T w) (e : ∀ k, T k = T' k) : HMq B X m n T' w := by
  obtain ⟨rs, clock, h1, h2, h3⟩ := h.out
  exact ⟨rs, clock, h1, fun k => (h2 k).trans (e k), h3⟩
theorem HMq.geB {B : Nat} {X : Nat → Prop} {m n : Nat} {T : ByteArray → Option (List ByteArray)} {w : World} (h : HMq B X m n T w) : B ≤ m ∧ m < w.heap.size ∧ ¬ X m := by
  obtain ⟨rs, clock, h1, h2, h3⟩ := h.out
  exact ⟨h1.geB, h1.lt, h1.neN⟩
theorem PutP.from {B : Nat} {X X' : Nat → Prop} {m n : Nat} {T : ByteArray → Option (List ByteArray)} {w w1 w' : World} {e : Ending} (hb : Below w.heap.size w w1) (h : PutP B X' m n T w1 e w') (hX : ∀ k, k < w.heap.size → X k → X' k) (hlt : ∀ k, X k → k < w.heap.size) : PutP B X m n T w e w' := by
  obtain ⟨h1, h2, h3⟩ := h
  refine ⟨h1, h2.re (fun k hk => .inl (hX k (hlt k hk) hk)), (Fr.of_below (S := fun k => B ≤ k ∧ ¬ X k) hb).trans h3 (fun k hk hs => ⟨hs.1, fun hx => hs.2 (hX k hk hx)⟩)⟩
structure MapIn (B : Nat) (X : Nat → Prop) (m n : Nat) (T : ByteArray → Option (List ByteArray)) (w : World) : Prop where
  map : HMq B X m n T w
  low : ∀ k, X k → k < w.heap.size
  short : ∀ k x, T k = some x → x.length ≤ 1000000
theorem MapIn.calm {B : Nat} {X : Nat → Prop} {m n : Nat} {T : ByteArray → Option (List ByteArray)} {w w' : World} (h : MapIn B X m n T w) (hb : Below w.heap.size w w') : MapIn B X m n T w' :=
  ⟨h.map.calm hb, fun k hk => by have := h.low k hk; have := hb.size; omega, h.short⟩
/-- .. a block besides that is to stay. -/
theorem MapIn.also {B : Nat} {X : Nat → Prop} {m n : Nat} {T : ByteArray → Option (List ByteArray)} {w w' : World} (h : MapIn B X m n T w) (hb : Below w.heap.size w w') {g : Nat} (hg : w.heap.size ≤ g) (hg' : g < w'.heap.size) : MapIn B (fun k => X k ∨ k = g) m n T w' := by
  have h1 := h.map.re (X' := fun k => X k ∨ k = g) (fun k hk => by rcases hk with hk | hk; exact .inl hk; exact .inr (by omega))
  refine ⟨h1.calm hb, fun k hk => ?_, h.short⟩
  rcases hk with hk | hk
  · have := h.low k hk; have := hb.size; omega
  · omega
theorem undrew {w w' : World} (h : Below w.drew.heap.size w.drew w') : Below w.heap.size w w' := ⟨h.os, h.tape, h.output, h.size, h.block⟩
theorem mod_call {B : Nat} {X : Nat → Prop} {m n : Nat} {T : ByteArray → Option (List ByteArray)} {w : World} (H : MapIn B X m n T w) (key val : ByteArray) (add : Bool) :
    Calls Tryz.prog 144 #[HV m key add, .string val] w (PutP B X m n (putT T key val add) w) := by
  obtain ⟨rs, clock, h1, h2, h3⟩ := H.map.out
  have hx : ∀ r ∈ rs, r.xs.length ≤ 1000000 := fun r hr => H.short r.key r.xs (by rw [← h2]; exact (lk_iff h1.keys _ _).2 ⟨r, hr, rfl, rfl⟩)
  cases add
  · refine (mod_set key val w h1 H.low h3 hx).mono ?_
    rintro e w' ⟨he, hq, hf⟩
    refine ⟨he, hq.eqT (fun k => ?_), hf⟩
    simp [putT, upT, h2]
  · refine (mod_add key val w h1 H.low h3 hx).mono ?_
    rintro e w' ⟨he, hq, hf⟩
    refine ⟨he, hq.eqT (fun k => ?_), hf⟩
    simp [putT, upT, h2]
set_option maxHeartbeats 400000 in
set_option maxRecDepth 100000 in
theorem hlong_call {B : Nat} {X : Nat → Prop} {m n : Nat} {T : ByteArray → Option (List ByteArray)} {w : World} (H : MapIn B X m n T w) (key : ByteArray) (add : Bool) (hT : Pow w) (v : Int) (h0 : -9223372036854775808 ≤ v) (h1 : v ≤ 9223372036854775807) :
    Calls Tryz.prog 119 #[HV m key add, .int .i64 v] w (PutP B X m n (putT T key (decS v) add) w) := by
  replace H := Aside0.mk H
  unfold HV
  go_enter Tryz.func119, Tryz.ntmps119
  go_wp2_with fail
  replace hT := Aside0.mk hT
  have hu := heap_new w (.cells #[.map (some m), .string key, .bool add] 125)
  have hb1 := below_alloc (Below.refl w.heap.size w) (.cells #[.map (some m), .string key, .bool add] 125)
  have H1 := Aside0.mk (H.out.also hb1 (Nat.le_refl _) (by simp))
  generalize w.alloc (.cells #[.map (some m), .string key, .bool add] 125) = w1 at *
  have hlow := Aside0.mk H.out.low
  replace hb1 := Aside0.mk hb1
  generalize hub : w.heap.size = ub at *
  have c0 := cell_at hu 0; have c1 := cell_at hu 1; have c2 := cell_at hu 2
  simp at c0 c1 c2
  replace hu := Aside0.mk hu
  have hin := fun (w : World) (val : ByteArray) (H : MapIn B (fun k => X k ∨ k = ub) m n T w) => mod_call H key val add
  unfold HV at hin
  replace hin := Aside0.mk hin
  go_region_held3 (fun w' => w'.cell? ⟨ub, 0, none⟩ = some (.map (some m)) ∧ w'.cell? ⟨ub, 1, none⟩ = some (.string key) ∧ w'.cell? ⟨ub, 2, none⟩ = some (.bool add)) (go_keep) (first | ((go_at_call 141; refine (fmtInt_call v h0 h1 _ ((hT.out.below (by rw [hub]; exact hb1.out)).below (below_drew (Below.refl _ _)))).mono ?_; rintro e w2 ⟨rfl, hb⟩; replace hb := undrew hb; have h := Fr.heap (Fr.of_below (S := fun _ => False) hb) hu.out (fun h => h); have e0 := cell_at h 0; have e1 := cell_at h 1; have e2 := cell_at h 2; simp at e0 e1 e2; replace h := Aside0.mk h; replace hb := Aside0.mk hb)) | ((go_at_call 144; refine (hin.out w2 _ (H1.out.calm hb.out)).mono ?_; rintro e w3 ⟨rfl, h2, h3⟩; have h4 := Fr.heap h3 h.out (fun hs => hs.2 (.inr rfl)); have g0 := cell_at h4 0; have g1 := cell_at h4 1; have g2 := cell_at h4 2; simp at g0 g1 g2)))
  go_wp2
  refine bodyPost_end (results_none rfl _ _ _) rfl ?_
  subst hub
  exact PutP.from (below_then hb1.out hb1.out.size hb.out) ⟨rfl, h2, h3⟩ (fun k _ hk => .inl hk) hlow.out
end HH
end Go.Proofs.YtclmjmfcggkpaaaGreatDoor
