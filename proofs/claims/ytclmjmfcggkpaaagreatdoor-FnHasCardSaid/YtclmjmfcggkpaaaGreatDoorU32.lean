import Derived.Test.YtclmjmfcggkpaaaGreatDoorU30
import Derived.Test.YtclmjmfcggkpaaaGreatDoorU31
import Derived.Lib.ParseIntB
import Derived.Lib.ItoaLen
import Derived.Test.YtclmjmfcggkpaaaGreatDoorU28
import Derived.Deep.RegionHeld3
import Derived.Test.YtclmjmfcggkpaaaGreatDoorU14
set_option linter.unusedVariables false
set_option linter.unusedSimpArgs false
namespace Go.Proofs.YtclmjmfcggkpaaaGreatDoor
open Go.RowKit Go.Proofs.YtclmjmfcggkpaaaGreatDoorW.PrintWords Go.Proofs.YtclmjmfcggkpaaaGreatDoorW.PrintLast Go.Proofs.YtclmjmfcggkpaaaGreatDoorW.PrintMore
open PX
open Go.ChangeMaps (setBlock)
namespace HH
open H
/-! ### An encoder with headers -/
/-- The encoder eb: path p, raw path r, a query's map, a header map (made from C on). -/
def EncK (C eb qm mh : Nat) (p r : List Int) (w : World) : Prop :=
 ∃ (g g2 : Nat) (z1 z2 : List Int), w.heap[eb]? = some (.cells #[.slice (some ⟨g, 0, none⟩) p.length z1.length, .slice (some ⟨g2, 0, none⟩) r.length z2.length, .slice none 0 0, .map (some qm), .map (some mh)] 131 (0, 0)) ∧
  BAt w g z1 ∧ p.length ≤ z1.length ∧ z1.take p.length = p ∧ z1.length ≤ 9223372036854775807 ∧ BAt w g2 z2 ∧ r.length ≤ z2.length ∧ z2.take r.length = r ∧ z2.length ≤ 9223372036854775807 ∧ g < C ∧ g2 < C ∧ g ≠ g2 ∧ qm < C ∧ C ≤ eb ∧ w.heap[qm]? = some (.map #[] 0)
theorem EncK.lt {C eb qm mh : Nat} {p r : List Int} {w : World} (h : EncK C eb qm mh p r w) : eb < w.heap.size ∧ C ≤ eb := by
 obtain ⟨g, g2, z1, z2, h1, h2, h3, h4, h5, h6, h7, h8, h9, h10, h11, h12, h13, h14, h15⟩ := h
 exact ⟨lt_of h1, h14⟩
set_option maxHeartbeats 2000000 in
set_option maxRecDepth 100000 in
theorem newRawH_call {B m clock : Nat} {X : Nat → Prop} {rs : List MR} (path raw : ByteArray) (w : World) (H : HMr B X m rs clock w) (hx : ∀ r ∈ rs, r.xs.length ≤ 1000000) (hp : path.size ≤ 140737488355328) (hr : raw.size ≤ 140737488355328) :
 Calls Tryz.prog 69 #[.string path, .string raw, .string ⟨#[]⟩, .map (some m)] w fun e w' =>
  ∃ C eb qm mh, e = .returned (.tuple #[.pointer (some ⟨eb, 0, none⟩), .nilIface]) ∧ EncK C eb qm mh (bytesOf path) (bytesOf raw) w' ∧ HMq C (fun k => k = eb) mh rs.length (lk (rs.map MR.hd)) w' ∧ w.heap.size ≤ C ∧ Below w.heap.size w w' ∧ w.heap.size ≤ qm := by
 have hcv := fun (w : World) (s : ByteArray) => Lib.run_convert_string_bytes (P := Tryz.prog) w 9 104 5 s (u := .string) Tryz.underlying9 Tryz.underlying104 Tryz.underlying5
 go_enter Tryz.func69, Tryz.ntmps69
 go_wp2_with fail
 refine (pq_call _).mono ?_
 rintro e w1 ⟨rfl, h1, h2⟩
 go_wp2_with fail
 have hb1 := bytesWorld_below w1 path
 have ha1 := BAt.of_string w1 path
 rw [← strZs_length w1 path]
 have ht1 := strZs_take w1 path
 have hc1 : (strZs w1 path).length ≤ 9223372036854775807 := by rw [strZs_length]; have := grownCap_le_maxLen w1 path.size 0 5 (by unfold maxLen; omega); unfold maxLen at this; omega
 generalize strZs w1 path = z1 at *
 generalize hw2 : Lib.bytesWorld w1 5 path = w2 at *
 have hb2 := bytesWorld_below w2 raw
 have ha2 := BAt.of_string w2 raw
 rw [← strZs_length w2 raw]
 have ht2 := strZs_take w2 raw
 have hc2 : (strZs w2 raw).length ≤ 9223372036854775807 := by rw [strZs_length]; have := grownCap_le_maxLen w2 raw.size 0 5 (by unfold maxLen; omega); unfold maxLen at this; omega
 generalize strZs w2 raw = z2 at *
 generalize hw3 : Lib.bytesWorld w2 5 raw = w3 at *
 have F1 : Fr (fun _ => False) w w1 := Fr.of_below h2
 have F2 : Fr (fun _ => False) w1 w2 := Fr.of_below hb1
 have F3 : Fr (fun _ => False) w2 w3 := Fr.of_below hb2
 have F13 := (F1.trans F2 (fun _ _ h => h)).trans F3 (fun _ _ h => h)
 refine (clone_call w3 (H.fr F13 (fun h => h) (fun _ _ _ _ h => h)) hx (fun _ => False) (fun _ h => h.elim)).mono ?_
 rintro e w4 ⟨rfl, h4, h5⟩
 have F4 : Fr (fun _ => False) w3 w4 := Fr.of_below h5
 go_wp2
 go_ret2
 have F5 : Fr (fun _ => False) w4 (w4.alloc (.cells #[.slice (some ⟨w1.heap.size, 0, none⟩) path.size z1.length, .slice (some ⟨w2.heap.size, 0, none⟩) raw.size z2.length, .slice none 0 0, .map (some w.heap.size), .map (some w3.heap.size)] 131)) := Fr.alloc (Fr.refl _ _) _
 have F45 := F4.trans F5 (fun _ _ h => h)
 have F15 := F13.trans F45 (fun _ _ h => h)
 have hlen : ∀ s : ByteArray, s.size = (bytesOf s).length := fun s => (bytesOf_length s).symm
 have hle1 : path.size ≤ z1.length := by
  have := congrArg List.length ht1
  simp [bytesOf_length] at this; omega
 have hle2 : raw.size ≤ z2.length := by
  have := congrArg List.length ht2
  simp [bytesOf_length] at this; omega
 have hs1 := F1.size
 have hlt1 := ha1.lt
 have hw1 := ha1.lt
 have hw2 := ha2.lt
 have hs13 := F13.size
 have hs4 := F4.size
 have hs2 := F2.size
 have hs3 := F3.size
 have q1 : bytesOf path = bytesOf path := rfl
 have h4' := (h4.re (X' := fun k => k = w4.heap.size) (fun k hk => .inr (by omega))).calm (below_alloc (Below.refl w4.heap.size w4) (.cells #[.slice (some ⟨w1.heap.size, 0, none⟩) path.size z1.length, .slice (some ⟨w2.heap.size, 0, none⟩) raw.size z2.length, .slice none 0 0, .map (some w.heap.size), .map (some w3.heap.size)] 131))
 have hq1 := ((F2.trans F3 (fun _ _ h => h)).trans F45 (fun _ _ h => h)).heap h1 (fun h => h)
 refine ⟨w3.heap.size, w4.heap.size, w.heap.size, w3.heap.size, rfl, ⟨w1.heap.size, w2.heap.size, z1, z2, ?_, (ha1.fr F3 (fun h => h)).fr F45 (fun h => h), by rw [bytesOf_length]; exact hle1, by rw [bytesOf_length]; exact ht1, hc1, ha2.fr F45 (fun h => h), by rw [bytesOf_length]; exact hle2, by rw [bytesOf_length]; exact ht2, hc2, by omega, by omega, by omega, by have := lt_of h1; omega, by omega, hq1⟩, h4', hs13, F15.below (Nat.le_refl _) (fun _ _ h => h.elim), Nat.le_refl _⟩
 rw [bytesOf_length, bytesOf_length]
 exact heap_new _ _
set_option maxHeartbeats 1000000 in
set_option maxRecDepth 100000 in
theorem newH_call {B m clock : Nat} {X : Nat → Prop} {rs : List MR} (path : ByteArray) (w : World) (H : HMr B X m rs clock w) (hx : ∀ r ∈ rs, r.xs.length ≤ 1000000) (hp : path.size ≤ 140737488355328) :
 Calls Tryz.prog 45 #[.string path, .string ⟨#[]⟩, .map (some m)] w fun e w' =>
  ∃ C eb qm mh, e = .returned (.tuple #[.pointer (some ⟨eb, 0, none⟩), .nilIface]) ∧ EncK C eb qm mh (bytesOf path) (bytesOf path) w' ∧ HMq C (fun k => k = eb) mh rs.length (lk (rs.map MR.hd)) w' ∧ w.heap.size ≤ C ∧ Below w.heap.size w w' ∧ w.heap.size ≤ qm := by
 go_enter Tryz.func45, Tryz.ntmps45
 go_wp2_with fail
 refine (newRawH_call path path w H hx hp hp).mono ?_
 rintro e w1 ⟨C, eb, qm, mh, rfl, h⟩
 go_wp2
 go_ret2
 exact ⟨C, eb, qm, mh, rfl, h⟩
end HH
end Go.Proofs.YtclmjmfcggkpaaaGreatDoor
set_option linter.unusedVariables false
set_option linter.unusedSimpArgs false
namespace Go.Proofs.YtclmjmfcggkpaaaGreatDoor
open Go.RowKit Go.Proofs.YtclmjmfcggkpaaaGreatDoorW.PrintWords Go.Proofs.YtclmjmfcggkpaaaGreatDoorW.PrintLast Go.Proofs.YtclmjmfcggkpaaaGreatDoorW.PrintMore
open PX
open Go.ChangeMaps (setBlock)
namespace HH
open H
/-! ### Encoder.Encode with headers -/
def CL : ByteArray := ⟨#[67, 111, 110, 116, 101, 110, 116, 45, 76, 101, 110, 103, 116, 104]⟩
theorem HMq.frX {B m n : Nat} {X S : Nat → Prop} {T : ByteArray → Option (List ByteArray)} {w w' : World} (h : HMq B X m n T w) (hf : Fr S w w') (hS : ∀ k, S k → X k) : HMq B X m n T w' := by
 obtain ⟨rs, clock, h1, h2, h3⟩ := h.out
 exact ⟨rs, clock, h1.fr hf (fun e => h1.neN (hS _ e)) (fun r hr k hk e => (h1.rowM hr hk).2.2.1 (hS _ e)), h2, h3⟩
end HH
end Go.Proofs.YtclmjmfcggkpaaaGreatDoor
set_option linter.unusedVariables false
set_option linter.unusedSimpArgs false
namespace Go.Proofs.YtclmjmfcggkpaaaGreatDoor
open Go.RowKit Go.Proofs.YtclmjmfcggkpaaaGreatDoorW.PrintWords Go.Proofs.YtclmjmfcggkpaaaGreatDoorW.PrintLast Go.Proofs.YtclmjmfcggkpaaaGreatDoorW.PrintMore
open PX
open Go.ChangeMaps (setBlock)
namespace HH
open H
/-! ### HasQuery, HasHeader -/
set_option maxRecDepth 100000 in
theorem qget_none {B m n : Nat} {X : Nat → Prop} {T : ByteArray → Option (List ByteArray)} {w : World} (H : HMq B X m n T w) (key : ByteArray) (hx : T key = none) :
 Calls Tryz.prog 97 #[.map (some m), .string key] w fun e w' => e = .returned (.string ⟨#[]⟩) ∧ w' = w := by
 obtain ⟨rs, clock, h1, h2, h3⟩ := H.out
 have hl := runQ_lookup h1.obj key (.slice none 0 0) (.inl ⟨(lk_none key).1 ((h2 key).trans hx), rfl⟩) h1.keys
 go_enter Tryz.func97, Tryz.ntmps97
 go_wp2
 go_ret
 exact ⟨rfl, rfl⟩
set_option maxRecDepth 100000 in
theorem qget_some {B m n : Nat} {X : Nat → Prop} {T : ByteArray → Option (List ByteArray)} {w : World} (H : HMq B X m n T w) (key x : ByteArray) (xr : List ByteArray) (hx : T key = some (x :: xr)) :
 Calls Tryz.prog 97 #[.map (some m), .string key] w fun e w' => e = .returned (.string x) ∧ w' = w := by
 obtain ⟨rs, clock, h1, h2, h3⟩ := H.out
 obtain ⟨r, hr, hk, hxs⟩ := (lk_iff h1.keys key (x :: xr)).1 ((h2 key).trans hx)
 have hl := runQ_lookup h1.obj key r.val (.inr ⟨r, hr, hk, rfl⟩) h1.keys
 rcases h1.val hr with ⟨_, h⟩ | ⟨g, c, hv, hle, hC⟩
 ·rw [hxs] at h; cases h
 ·rw [hxs] at hv hle hC
  rw [hv] at hl
  obtain ⟨ad, hA, hy⟩ := Kd.at_string hC 0 (by omega) (by simp)
  injection hA with hA
  subst hA
  have hy' : w.cell? ⟨g, 0, none⟩ = some (.string x) := by simpa [plain_add, rdOf] using hy
  obtain ⟨N, hN⟩ : ∃ N, N = (x :: xr).length := ⟨_, rfl⟩
  rw [← hN] at hl hle
  have hN1 : 0 < N := by rw [hN]; simp
  have hc1 : N ≤ c := hle
  have q1 : ((N : Int) == 0) = false := by simp; omega
  have q2 : (0 : Int) < (N : Int) := by omega
  clear hN hv hC hy hxs hx h2
  go_enter Tryz.func97, Tryz.ntmps97
  go_wp2
  go_ret
  exact ⟨rfl, rfl⟩
/-- Each row that is there begins with a value that is not empty. -/
def Good (T : ByteArray → Option (List ByteArray)) : Prop := ∀ q, T q = none ∨ ∃ v r, T q = some (v :: r) ∧ v.size ≠ 0
def Some1 (T : ByteArray → Option (List ByteArray)) : Prop := ∀ q, T q = none ∨ ∃ v r, T q = some (v :: r)
set_option maxHeartbeats 1000000 in
set_option maxRecDepth 100000 in
theorem hasq_call {B m n eb : Nat} {X : Nat → Prop} {T : ByteArray → Option (List ByteArray)} {w : World} (H : HMq B X m n T w) (hG : Good T) (he : w.cell? ⟨eb, 3, none⟩ = some (.map (some m))) (q : ByteArray) :
 Calls Tryz.prog 63 #[.pointer (some ⟨eb, 0, none⟩), .string q] w fun e w' => e = .returned (.bool (T q).isSome) ∧ w' = w := by
 rcases hG q with h | ⟨v, r, h, hv⟩
 ·have hc := qget_none H q h
  rw [h]
  go_enter Tryz.func63, Tryz.ntmps63
  go_wp2_with fail
  refine hc.mono ?_
  rintro e w' ⟨rfl, rfl⟩
  go_wp2
  go_ret
  exact ⟨rfl, rfl⟩
 ·have hc := qget_some H q v r h
  rw [h]
  have q1 : ((v.size : Int) != 0) = true := by rw [bne_iff_ne]; omega
  go_enter Tryz.func63, Tryz.ntmps63
  go_wp2_with fail
  refine hc.mono ?_
  rintro e w' ⟨rfl, rfl⟩
  go_wp2
  go_ret
  exact ⟨rfl, rfl⟩
set_option maxHeartbeats 1000000 in
set_option maxRecDepth 100000 in
theorem hash_call {B m n qm : Nat} {X : Nat → Prop} {T : ByteArray → Option (List ByteArray)} {w : World} (H : HMq B X m n T w) (hG : Some1 T) (v0 v1 v2 : Value) (q : ByteArray) :
 Calls Tryz.prog 64 #[.agg #[v0, v1, v2, .map (some qm), .map (some m)], .string q] w fun e w' => e = .returned (.bool (T q).isSome) ∧ Below w.heap.size w w' := by
 have hb := below_alloc (Below.refl w.heap.size w) (.cells #[v0, v1, v2, .map (some qm), .map (some m)] 131)
 obtain ⟨rs, clock, h1, h2, h3⟩ := (H.calm hb).out
 rcases hG q with h | ⟨v, r, h⟩
 ·have hl := run_lookup h1.obj q (.slice none 0 0) (.inl ⟨(lk_none q).1 ((h2 q).trans h), rfl⟩) h1.keys
  rw [h]
  go_enter Tryz.func64, Tryz.ntmps64
  go_wp2
  go_ret
  exact ⟨rfl, hb⟩
 ·obtain ⟨a, ha, hk, hxs⟩ := (lk_iff h1.keys q (v :: r)).1 ((h2 q).trans h)
  have hl := run_lookup h1.obj q a.val (.inr ⟨a, ha, hk, rfl⟩) h1.keys
  rw [h]
  rcases h1.val ha with ⟨_, h⟩ | ⟨g, c, hv, hle, hC⟩
  ·rw [hxs] at h; cases h
  ·rw [hxs] at hv hle
   rw [hv] at hl
   obtain ⟨N, hN⟩ : ∃ N, N = (v :: r).length := ⟨_, rfl⟩
   rw [← hN] at hl hle
   have hN1 : 0 < N := by rw [hN]; simp
   have q1 : ((N : Int) != 0) = true := by simp; omega
   clear hN hv hC hxs h h2
   go_enter Tryz.func64, Tryz.ntmps64
   go_wp2
   go_ret
   exact ⟨rfl, hb⟩
end HH
end Go.Proofs.YtclmjmfcggkpaaaGreatDoor
set_option linter.unusedVariables false
set_option linter.unusedSimpArgs false
namespace Go.Proofs.YtclmjmfcggkpaaaGreatDoor
open Go.RowKit Go.Proofs.YtclmjmfcggkpaaaGreatDoorW.PrintWords Go.Proofs.YtclmjmfcggkpaaaGreatDoorW.PrintLast Go.Proofs.YtclmjmfcggkpaaaGreatDoorW.PrintMore
open PX
open Go.ChangeMaps (setBlock)
namespace HH
open H
/-! ### impl.Bind with headers -/
theorem append_copy_step {ops : Array Oper} {o : Oper} {a : Act} {Q : Exit → Act → World → Prop} {Kc : Act → World → Prop} {W : World} (hw : Region.wanted o (yielded ops a.tmps) = true) (s x : Operand)
 (ho : o.op = .call { callee := .builtin .append, args := #[s, x], argTypes := #[67, 67] }) (ys : List ByteArray) (A : Option Addr) (c : Nat)
 (hs : a.eval s = .slice (some ⟨W.heap.size, 0, none⟩) 0 0) (hx : a.eval x = .slice A ys.length c) (hr : Kd.string.C W A ys.length ys) (hl : ys.length ≤ 1000000)
 (h : ∀ v1 w1, Kd.string.R 9 w1 W.heap.size (fun _ => True) v1 ys → Below W.heap.size W w1 → Kc (a.put o.dst v1) w1) :
 if Region.wanted o (yielded ops a.tmps) = true then Oper.wp Tryz.prog o a (W.alloc (.cells #[] 9)) Kc Q else Kc (a.put o.dst undef) (W.alloc (.cells #[] 9)) := by
 have hb := below_alloc (Below.refl W.heap.size W) (.cells #[] 9)
 refine Kd.R_append_rows_step Kd.string (w0 := W) W.heap.size hw s x 67 9 (.string ⟨#[]⟩) 16 ho Tryz.underlying67 inf9 rfl (by decide) (by omega) _ [] ys A ys.length c (fun k => W.heap.size ≤ k) (fun _ => False) hs hx (empty_row W) (Kd.C_below hr hb) (fun _ _ h => h) (fun _ hk => hk.elim) (fun k hk => by have := hb.size; omega) hb hb.size (by simp; omega) ?_
 intro v1 w1 hR hB _ _
 exact h v1 w1 (Kd.R_mono hR (fun _ _ => trivial)) hB
theorem rd73_at (xs : List S73) (k : Nat) (h : k < xs.length) : xs[k]? = some (rd_T73 xs (k : Int)) := by
 simp [rd_T73, List.getElem?_eq_getElem h]
theorem lk_take {xs : List S73} (k : Nat) (h : k < xs.length) (q : ByteArray) (hnd : (xs.map (·.f0)).Nodup) :
 lk (xs.take (k + 1)) q = if (rd_T73 xs (k : Int)).f0 = q then some (rd_T73 xs (k : Int)).f1 else lk (xs.take k) q := by
 have e : xs[k] = rd_T73 xs (k : Int) := by
  have := rd73_at xs k h
  rw [List.getElem?_eq_getElem h] at this
  exact Option.some.inj this
 rw [List.take_succ_eq_append_getElem h, lk_app, e, lk_cons, lk_nil]
 by_cases hq : (rd_T73 xs (k : Int)).f0 = q
 ·rw [if_pos hq, if_pos hq]
  have : lk (xs.take k) q = none := by
   refine lk_not fun a ha => ?_
   obtain ⟨i, hi, rfl⟩ := List.mem_iff_getElem.1 ha
   rw [List.length_take] at hi
   rw [List.getElem_take, ← hq, ← e]
   have := List.pairwise_iff_getElem.1 hnd i k (by simp; omega) (by simpa using h) (by omega)
   simpa using this
  rw [this]; rfl
 ·rw [if_neg hq, if_neg hq]; simp
structure GH (res C hm n : Nat) (X : Nat → Prop) (Tf : ByteArray → Option (List ByteArray)) (w6 w' : World) : Prop where
 map : HMq C X hm n Tf w'
 tab : Tab w'
 row : ∃ cs : Array Value, cs.size = 6 ∧ w'.heap[res]? = some (.cells cs 33 (0, 0))
 fr : Fr (fun k => k = res) w6 w'
end HH
end Go.Proofs.YtclmjmfcggkpaaaGreatDoor
