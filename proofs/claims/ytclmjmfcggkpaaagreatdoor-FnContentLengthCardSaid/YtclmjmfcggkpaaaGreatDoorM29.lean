import Derived.Test.YtclmjmfcggkpaaaGreatDoorM28
set_option linter.unusedVariables false
set_option linter.unusedSimpArgs false
namespace Go.Proofs.YtclmjmfcggkpaaaGreatDoor
open Go.RowKit Go.Proofs.YtclmjmfcggkpaaaGreatDoorW.PrintWords Go.Proofs.YtclmjmfcggkpaaaGreatDoorW.PrintLast Go.Proofs.YtclmjmfcggkpaaaGreatDoorW.PrintMore
open PX
open Go.ChangeMaps (setBlock)
namespace HH
open H
/-! ### Header.Get, Header.Del -/
set_option maxRecDepth 100000 in
theorem run_del {rs : List MR} {clock m : Nat} {w : World} (hm : w.heap[m]? = some (.map (rs.map MR.ent).toArray clock)) (key : ByteArray) {j : Nat} {r : MR} (hj : rs[j]? = some r) (hk : r.key = key) (hn : (rs.map MR.key).Nodup) (ty : TypeId) :
    (Builtin.delete_ #[76, 9] ty #[.map (some m), .string key]).run Tryz.prog w = .ok (.tuple #[]) (setBlock w m (.map ((rs.eraseIdx j).map MR.ent).toArray clock)) := by
  have hu := Tryz.underlying76
  have hu9 := Tryz.underlying9
  have hck := fun b => MapKept.run_checkKey (P := Tryz.prog) (w := w) (k := .string key) hu9 (by constructor) b 9999
  rcases look_cases rs key with ⟨h1, h2⟩ | ⟨j', r', h1, h2, h3⟩
  · exact absurd hk (h1 r (List.mem_of_getElem? hj))
  · obtain rfl : j' = j := key_at hn h1 hj (h2.trans hk.symm)
    have hf := MapKept.run_findKey (P := Tryz.prog) (w := w) hu9 h3
    have hlt := (List.getElem?_eq_some_iff.1 h1).1
    have he : (rs.map MR.ent).toArray.eraseIdxIfInBounds j' = ((rs.eraseIdx j').map MR.ent).toArray := by
      unfold Array.eraseIdxIfInBounds
      rw [dif_pos (by simpa using hlt)]
      simp [Go.ChangeMaps.map_eraseIdx]
    rw [← he]
    simp [Builtin.delete_, run_underlying hu, MapKept.run_getObj_map hm, hck, hf, MapKept.run_setObj_map _ hm, Result.andThen, setBlock]
theorem HMr.del {B m clock : Nat} {X : Nat → Prop} {rs : List MR} {w : World} (h : HMr B X m rs clock w) (j : Nat) : HMr B X m (rs.eraseIdx j) clock (setBlock w m (.map ((rs.eraseIdx j).map MR.ent).toArray clock)) := by
  have hs : (rs.eraseIdx j).Sublist rs := List.eraseIdx_sublist _ _
  have hf := fr_setBlock (S := fun k => k = m) w m (.map ((rs.eraseIdx j).map MR.ent).toArray clock) (.inl rfl)
  refine ⟨at_setBlock h.obj _, fun r hr => h.below r (hs.subset hr), (hs.map _).nodup h.born, (hs.map _).nodup h.keys, fun r hr => ?_, h.apart.sublist hs, h.geB, h.neN⟩
  have hr' := hs.subset hr
  exact Kd.R_reok (by rfl) (Kd.R_step (Kd.R_tight (by rfl) (h.rows r hr')) (fun k hk hlt => hf.block k hlt (h.rowM hr' hk.symm).2.2.2)) (fun k hk => (h.rowM hr' hk).2.2.1)
theorem lk_del {rs : List MR} (hn : (rs.map MR.key).Nodup) {j : Nat} {r : MR} (hj : rs[j]? = some r) (k : ByteArray) : lk ((rs.eraseIdx j).map MR.hd) k = if r.key = k then none else lk (rs.map MR.hd) k := by
  have hs : (rs.eraseIdx j).Sublist rs := List.eraseIdx_sublist _ _
  have hn' : ((rs.eraseIdx j).map MR.key).Nodup := (hs.map _).nodup hn
  by_cases hk : r.key = k
  · rw [if_pos hk, lk_none]
    intro a ha e
    obtain ⟨i, hij, hi⟩ := List.mem_eraseIdx_iff_getElem?.1 ha
    exact hij (key_at hn hi hj (e.trans hk.symm))
  · rw [if_neg hk]
    apply Option.ext
    intro x
    rw [lk_iff hn', lk_iff hn]
    constructor
    · rintro ⟨a, ha, h1, h2⟩
      exact ⟨a, hs.subset ha, h1, h2⟩
    · rintro ⟨a, ha, h1, h2⟩
      obtain ⟨i, hi⟩ := List.mem_iff_getElem?.1 ha
      refine ⟨a, List.mem_eraseIdx_iff_getElem?.2 ⟨i, ?_, hi⟩, h1, h2⟩
      rintro rfl
      rw [hj] at hi
      obtain rfl := Option.some.inj hi
      exact hk h1
set_option maxRecDepth 100000 in
theorem del_call {B m n : Nat} {X : Nat → Prop} {T : ByteArray → Option (List ByteArray)} {w : World} (H : HMq B X m n T w) (key : ByteArray) (x : List ByteArray) (hx : T key = some x) :
    Calls Tryz.prog 84 #[.map (some m), .string key] w fun e w' => e = .returned (.tuple #[]) ∧ HMq B X m n (fun k => if key = k then none else T k) w' ∧ Fr (fun k => k = m) w w' := by
  obtain ⟨rs, clock, h1, h2, h3⟩ := H.out
  obtain ⟨r, hr, hk, hxs⟩ := (lk_iff h1.keys key x).1 ((h2 key).trans hx)
  obtain ⟨j, hj⟩ := List.mem_iff_getElem?.1 hr
  have hrun := fun ty => run_del h1.obj key hj hk h1.keys ty
  have hq : Aside0 (HMq B X m n (fun k => if key = k then none else T k) (setBlock w m (.map ((rs.eraseIdx j).map MR.ent).toArray clock))) := .mk ⟨_, _, h1.del j, fun k => by rw [lk_del h1.keys hj, hk, h2], by have := (List.eraseIdx_sublist rs j).length_le; omega⟩
  have hf : Aside0 (Fr (fun k => k = m) w (setBlock w m (.map ((rs.eraseIdx j).map MR.ent).toArray clock))) := .mk (fr_setBlock w m _ (.inl rfl))
  generalize setBlock w m (.map ((rs.eraseIdx j).map MR.ent).toArray clock) = w1 at *
  go_enter Tryz.func84, Tryz.ntmps84
  go_wp2
  refine bodyPost_end (results_none rfl _ _ _) rfl ?_
  exact ⟨rfl, hq.out, hf.out⟩
set_option maxRecDepth 100000 in
theorem get_some {B m n : Nat} {X : Nat → Prop} {T : ByteArray → Option (List ByteArray)} {w : World} (H : HMq B X m n T w) (key : ByteArray) (x : ByteArray) (hx : T key = some [x]) :
    Calls Tryz.prog 82 #[.map (some m), .string key] w fun e w' => e = .returned (.string x) ∧ w' = w := by
  obtain ⟨rs, clock, h1, h2, h3⟩ := H.out
  obtain ⟨r, hr, hk, hxs⟩ := (lk_iff h1.keys key [x]).1 ((h2 key).trans hx)
  have hl := run_lookup h1.obj key r.val (.inr ⟨r, hr, hk, rfl⟩) h1.keys
  rcases h1.val hr with ⟨_, h⟩ | ⟨g, c, hv, hle, hC⟩
  · rw [hxs] at h; cases h
  · rw [hxs] at hv hle hC
    rw [hv] at hl
    obtain ⟨ad, hA, hy⟩ := Kd.at_string hC 0 (by omega) (by simp)
    injection hA with hA
    subst hA
    have hy' : w.cell? ⟨g, 0, none⟩ = some (.string x) := by simpa [plain_add, rdOf] using hy
    have hc1 : (1 : Nat) ≤ c := hle
    simp only [List.length_cons, List.length_nil, Nat.zero_add] at hl
    go_enter Tryz.func82, Tryz.ntmps82
    go_wp2
    go_ret
    exact ⟨rfl, rfl⟩
end HH
end Go.Proofs.YtclmjmfcggkpaaaGreatDoor
