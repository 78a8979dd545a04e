import Derived.Test.YtkihaebaccdjdaaGreatDoorJ6
import Derived.Test.YtkihaebaccdjdaaGreatDoorJ25
import Derived.Lib.IndexBytes
import Derived.Lib.BufferWrite
import Derived.LoopN
import Derived.StillTailTactics
set_option linter.unusedVariables false
set_option linter.unusedSimpArgs false
namespace Go.Proofs.YtkihaebaccdjdaaGreatDoor
open Go.RowKit Go.Proofs.YtkihaebaccdjdaaGreatDoorW.PrintWords Go.Proofs.YtkihaebaccdjdaaGreatDoorW.PrintLast Go.Proofs.YtkihaebaccdjdaaGreatDoorW.PrintMore
namespace H
/-! ### Base 64 -/
theorem size_data (s : ByteArray) : s.data.toList.length = s.size := by rw [Array.length_toList]; rfl
theorem or_nat (x y k : Nat) (h : y < 2 ^ k) (hx : x * 2 ^ k + y < 9223372036854775808) : bits .or .i64 ((x : Int) * 2 ^ k) (y : Int) = (x : Int) * 2 ^ k + y := by
  have e : (x : Int) * 2 ^ k = ((x * 2 ^ k : Nat) : Int) := by push_cast; rfl
  rw [e]
  generalize hA : x * 2 ^ k = A at *
  have h1 : (BitVec.ofInt 64 (A : Int)).toNat = A := by rw [BitVec.ofInt_natCast, BitVec.toNat_ofNat]; exact Nat.mod_eq_of_lt (by omega)
  have h2 : (BitVec.ofInt 64 (y : Int)).toNat = y := by rw [BitVec.ofInt_natCast, BitVec.toNat_ofNat]; exact Nat.mod_eq_of_lt (by omega)
  show IntKind.i64.wrap ((BitVec.ofInt 64 (A : Int) ||| BitVec.ofInt 64 (y : Int)).toNat : Int) = _
  have h3 : A ||| y = A + y := by
    rw [← hA, ← Nat.shiftLeft_eq]
    exact (Nat.shiftLeft_add_eq_or_of_lt h x).symm
  rw [BitVec.toNat_or, h1, h2, h3]
  exact (IntWalk.i64_in _ (by omega)).trans (by push_cast; rfl)
theorem or3 (a b c : Int) (ha : 0 ≤ a ∧ a ≤ 255) (hb : 0 ≤ b ∧ b ≤ 255) (hc : 0 ≤ c ∧ c ≤ 255) : bits .or .i64 (bits .or .i64 (a * 65536) (b * 256)) c = a * 65536 + b * 256 + c := by
  obtain ⟨a, rfl⟩ := Int.eq_ofNat_of_zero_le ha.1
  obtain ⟨b, rfl⟩ := Int.eq_ofNat_of_zero_le hb.1
  obtain ⟨c, rfl⟩ := Int.eq_ofNat_of_zero_le hc.1
  have h1 := or_nat a (b * 256) 16 (by omega) (by omega)
  have h2 := or_nat (a * 256 + b) c 8 (by omega) (by omega)
  have e1 : ((a : Int) * 2 ^ 16) = (a : Int) * 65536 := by omega
  have e2 : (((a * 256 + b : Nat) : Int) * 2 ^ 8) = (a : Int) * 65536 + (b : Int) * 256 := by omega
  have e3 : ((b * 256 : Nat) : Int) = (b : Int) * 256 := by omega
  rw [e1, e3] at h1
  rw [e2] at h2
  rw [h1, h2]
theorem and63 (n : Int) (h0 : 0 ≤ n) (h1 : n < 9223372036854775808) : bits .and .i64 n 63 = n % 64 := by
  obtain ⟨n, rfl⟩ := Int.eq_ofNat_of_zero_le h0
  have e1 : (BitVec.ofInt 64 (n : Int)).toNat = n := by rw [BitVec.ofInt_natCast, BitVec.toNat_ofNat]; exact Nat.mod_eq_of_lt (by omega)
  have e2 : (BitVec.ofInt 64 (63 : Int)).toNat = 63 := by decide
  show IntKind.i64.wrap ((BitVec.ofInt 64 (n : Int) &&& BitVec.ofInt 64 (63 : Int)).toNat : Int) = _
  have h3 : n &&& 63 = n % 64 := Nat.and_two_pow_sub_one_eq_mod n 6
  rw [BitVec.toNat_and, e1, e2, h3]
  exact (IntWalk.i64_in _ (by omega)).trans (by push_cast; rfl)
theorem run_copy_str {P : Program} (w : World) (dT sT ty elem : TypeId) (g dLen dCap n : Nat) (s : ByteArray) (cur : Array Value) (t : TypeId)
    (hu : P.underlying dT = some (.slice elem)) (hs : (P.info? elem).map (·.size) = some 1) (hg : w.heap[g]? = some (.cells cur t (0, 0))) (hn : n = min s.size dLen) (hfit : n ≤ cur.size) :
    (Builtin.copy_ #[dT, sT] ty #[.slice (some ⟨g, 0, none⟩) dLen dCap, .string s]).run P w =
      .ok (goInt n) (w.setRow g (Lib.byteCells (s.data.toList.take n) ++ cur.toList.drop n).toArray) := by
  have hl : (s.data.toList.take n).length = n := by rw [List.length_take, size_data]; omega
  have hlen : (Lib.byteCells (s.data.toList.take n)).length = n := by rw [Lib.byteCells_length, hl]
  have hst := run_storeCells_at (P := P) g 0 t (Lib.byteCells (s.data.toList.take n)) 0 cur w hg (by rw [hlen]; simpa using hfit) (Lib.byteCells_one _)
  have hmin : Nat.min s.size dLen = n := hn.symm
  have htk : List.take n (List.map (fun b : UInt8 => Value.int IntKind.u8 (b.toNat : Int)) s.data.toList) = Lib.byteCells (s.data.toList.take n) := by
    rw [Lib.byteCells, List.map_take]
  rw [hlen] at hst
  simp only [Nat.add_zero, Nat.zero_add, List.take_zero, List.nil_append] at hst
  cases hq : P.info? elem with
  | none => simp [hq] at hs
  | some i =>
    simp [Builtin.copy_, run_underlying hu, Builtin.lenOf, Builtin.firstCells, sizeOf, typeInfo, hq, hmin]
    rw [htk, hst]
    simp [Result.andThen]
theorem copyStr {P : Program} {w : World} {ops : Array Oper} {rest : List Oper} {o : Oper} {a : Act} {Q : Exit → Act → World → Prop} (hgd : o.guard = none) (d s : Operand) (dT sT : TypeId)
    (ho : o.op = .call { callee := .builtin .copy, args := #[d, s], argTypes := #[dT, sT] }) (elem : TypeId) (hu : P.underlying dT = some (.slice elem)) (hsz : (P.info? elem).map (·.size) = some 1)
    (g dLen dCap n : Nat) (u : ByteArray) (cur : Array Value) (t : TypeId) (hd : a.eval d = .slice (some ⟨g, 0, none⟩) dLen dCap) (hs : a.eval s = .string u)
    (hg : w.heap[g]? = some (.cells cur t (0, 0))) (hn : n = min u.size dLen) (hfit : n ≤ cur.size)
    (h : wpList P ops Q rest (a.put o.dst (goInt n)) (w.setRow g (Lib.byteCells (u.data.toList.take n) ++ cur.toList.drop n).toArray)) :
    wpList P ops Q (o :: rest) a w := by
  have hrun := run_copy_str (P := P) w dT sT o.type elem g dLen dCap n u cur t hu hsz hg hn hfit
  refine wpList_plain hgd fun K hK => ?_
  unfold Oper.wp
  simp [execOp, ho, resolve, invoke, builtin, hd, hs, hrun, Result.andThen]
  exact hK _ _ h
theorem row_fr {w : World} {g : Nat} {cs cs' : Array Value} {t : TypeId} (hg : w.heap[g]? = some (.cells cs t (0, 0))) : Fr (· = g) w (w.setRow g cs') ∧ (w.setRow g cs').heap[g]? = some (.cells cs' t (0, 0)) :=
  ⟨⟨rfl, rfl, rfl, by simp, fun k _ hk => setRow_other w g k _ hk⟩, setRow_heap w g cs _ t _ hg⟩
/-- The byte at i + j, or nought behind the end. -/
def gb (s : ByteArray) (i j : Nat) : Int := if i + j < s.size then bt s ((i + j : Nat) : Int) else 0
theorem gb_rng (s : ByteArray) (i j : Nat) : 0 ≤ gb s i j ∧ gb s i j ≤ 255 := by
  unfold gb
  split
  · exact bt_range s _
  · omega
theorem drop_data (s : ByteArray) (i : Nat) (h : i < s.size) : s.data.toList.drop i = (s[i]'h) :: s.data.toList.drop (i + 1) := by
  rw [List.drop_eq_getElem_cons (by rw [size_data]; exact h)]
  rfl
theorem bt_data (s : ByteArray) (i : Nat) (h : i < s.size) : ((s[i]'h).toNat : Int) = bt s (i : Int) := by simp [bt, h]
theorem group_cells (s : ByteArray) (i : Nat) (hi : i < s.size) (n : Nat) (hn : n = min (s.extract i s.size).size 3) :
    (Lib.byteCells ((s.extract i s.size).data.toList.take n) ++ ([Value.int .u8 0, .int .u8 0, .int .u8 0] : List Value).drop n) = [.int .u8 (gb s i 0), .int .u8 (gb s i 1), .int .u8 (gb s i 2)] := by
  have hz : (s.extract i s.size).size = s.size - i := by simp
  rw [hz] at hn
  have e : (s.extract i s.size).data.toList = s.data.toList.drop i := Lib.extract_to_end s i
  rw [e, drop_data s i hi]
  by_cases h1 : i + 1 < s.size
  · rw [drop_data s (i + 1) h1]
    by_cases h2 : i + 2 < s.size
    · rw [drop_data s (i + 2) h2]
      obtain rfl : n = 3 := by omega
      simp [Lib.byteCells, gb, hi, h1, h2, bt_data]
    · obtain rfl : n = 2 := by omega
      simp [Lib.byteCells, gb, hi, h1, h2, bt_data]
  · obtain rfl : n = 1 := by omega
    simp [Lib.byteCells, gb, hi, h1, show ¬ i + 2 < s.size by omega, bt_data]
def signsB : ByteArray := ⟨#[65, 66, 67, 68, 69, 70, 71, 72, 73, 74, 75, 76, 77, 78, 79, 80, 81, 82, 83, 84, 85, 86, 87, 88, 89, 90, 97, 98, 99, 100, 101, 102, 103, 104, 105, 106, 107, 108, 109, 110, 111, 112, 113, 114, 115, 116, 117, 118, 119, 120, 121, 122, 48, 49, 50, 51, 52, 53, 54, 55, 56, 57, 43, 47]⟩
def sig (x : Int) : Int := bt signsB x
def gx (s : ByteArray) (i : Nat) : Int := gb s i 0 * 65536 + gb s i 1 * 256 + gb s i 2
/-- Four signs for the three bytes from i on. -/
def grp (s : ByteArray) (i : Nat) : List Int :=
  [sig (gx s i / 262144 % 64), sig (gx s i / 4096 % 64), if i + 1 < s.size then sig (gx s i / 64 % 64) else 61, if i + 2 < s.size then sig (gx s i % 64) else 61]
def b64n (s : ByteArray) : Nat → List Int
  | 0 => []
  | r + 1 => b64n s r ++ grp s (3 * r)
theorem b64n_len (s : ByteArray) (r : Nat) : (b64n s r).length = 4 * r := by
  induction r with
  | zero => rfl
  | succ r ih => simp [b64n, ih, grp]; omega
def b64 (s : ByteArray) : ByteArray := strOfNums (b64n s ((s.size + 2) / 3))
end H
end Go.Proofs.YtkihaebaccdjdaaGreatDoor
set_option linter.unusedVariables false
set_option linter.unusedSimpArgs false
namespace Go.Proofs.YtkihaebaccdjdaaGreatDoor
open Go.RowKit Go.Proofs.YtkihaebaccdjdaaGreatDoorW.PrintWords Go.Proofs.YtkihaebaccdjdaaGreatDoorW.PrintLast Go.Proofs.YtkihaebaccdjdaaGreatDoorW.PrintMore
open PX
namespace H
set_option maxHeartbeats 1000000 in
set_option maxRecDepth 100000 in
theorem base64_call (s : ByteArray) (w : World) (hs : s.size ≤ 2147483647) :
    Calls Tryz.prog 148 #[.string s] w fun e w' => e = .returned (.string (b64 s)) ∧ Below w.heap.size w w' := by
  go_enter Tryz.func148, Tryz.ntmps148
  go_wp2_with ((with_reducible refine gate_dst (N := 10) rfl ?_); refine Kd.R_lit (Kd.int .u8) _ 5 ?hg (N := 10) ?hd (xs := ([] : List Int)) (inner := []) (ok := fun _ => True) (okp := fun _ => True) ?hr ?hp (fun _ hk => hk) trivial (Below.refl _ _) (Nat.le_refl _) (by simp) ?_; (case hd => rfl); (case hg => rfl); (case hr => first | (go_simp; done) | (go_simp; rfl)); (case hp => exact (Reps.none _ _)); intro va w1 hoa hba hg_ hnew_; clear hg_ hnew_; replace hoa := Aside0.mk hoa; replace hba := Aside0.mk hba)
  go_loopg [4, 5] ((s.size + 2) / 3) (fun g v4 v5 w' => ∃ r : Nat, r ≤ (s.size + 2) / 3 ∧ v5 = .int .i64 ((3 * r : Nat) : Int) ∧ Aside0 (g = (s.size + 2) / 3 - r) ∧ Aside0 (Kd.R (Kd.int .u8) 5 w' w.heap.size (fun _ => True) v4 (b64n s r)) ∧ Aside0 (Below w.heap.size w w'))
  case atStart => exact ⟨0, Nat.zero_le _, rfl, ⟨by omega⟩, hoa, hba⟩
  case round =>
    clear hoa hba
    obtain ⟨r, hr, rfl, hg, HO, HB⟩ := hrel
    rcases Nat.lt_or_ge (3 * r) s.size with hlt | hge
    · have hnext : Aside0 (b64n s (r + 1) = b64n s r ++ grp s (3 * r)) := ⟨rfl⟩
      by_cases h1 : 3 * r + 1 < s.size
      · by_cases h2 : 3 * r + 2 < s.size
        · have hn : 3 = min (s.extract (3 * r) s.size).size 3 := by simp; omega
          have hcells := Aside0.mk (group_cells s (3 * r) hlt 3 hn)
          replace hn := Aside0.mk hn
          have hsl := fun w => run_slice_string_l (P := Tryz.prog) w 9 s Tryz.underlying9 .i64 (3 * (r : Int)) (by omega) (by omega)
          rw [show (3 * (r : Int)).toNat = 3 * r from by omega] at hsl
          go_wp2_with fail
          refine wp_region_still_tail 4 (by kernel_rfl) (by kernel_rfl) ?_
          simp only [List.take_succ_cons, List.take_zero, List.drop_succ_cons, List.drop_zero]
          repeat still_step
          refine wpStill_nil ?_
          change wpList _ _ _ _ _ (wr.alloc (.cells #[.int .u8 0, .int .u8 0, .int .u8 0] 239)).drew
          have hgb := heap_new wr (.cells #[.int .u8 0, .int .u8 0, .int .u8 0] 239)
          have hbb := below_drew (below_alloc (Below.refl wr.heap.size wr) (.cells #[.int .u8 0, .int .u8 0, .int .u8 0] 239))
          refine copyStr rfl (.tmp 18) (.tmp 21) 22 9 rfl 5 Tryz.underlying22 (by kernel_rfl) wr.heap.size 3 3 3 (s.extract (3 * r) s.size) #[.int .u8 0, .int .u8 0, .int .u8 0] 239 rfl rfl hgb hn.out (by decide) ?_
          have hrow := row_fr (w := (wr.alloc (.cells #[.int .u8 0, .int .u8 0, .int .u8 0] 239)).drew) (cs' := (Lib.byteCells ((s.extract (3 * r) s.size).data.toList.take 3) ++ (#[Value.int .u8 0, .int .u8 0, .int .u8 0] : Array Value).toList.drop 3).toArray) hgb
          rw [show (#[Value.int .u8 0, .int .u8 0, .int .u8 0] : Array Value).toList = [Value.int .u8 0, .int .u8 0, .int .u8 0] from rfl, hcells.out] at hrow ⊢
          generalize World.setRow (wr.alloc (.cells #[.int .u8 0, .int .u8 0, .int .u8 0] 239)).drew wr.heap.size [Value.int .u8 (gb s (3 * r) 0), .int .u8 (gb s (3 * r) 1), .int .u8 (gb s (3 * r) 2)].toArray = w7 at *
          have hb7 : Below wr.heap.size wr w7 := hbb.trans (hrow.1.below (by have := hbb.size; exact this) (fun k _ h => by omega))
          replace HO := Aside0.mk (Kd.R_below HO.out hb7)
          replace HB := Aside0.mk (below_then HB.out HB.out.size hb7)
          have k0 := cell_at hrow.2 0; have k1 := cell_at hrow.2 1; have k2 := cell_at hrow.2 2
          simp at k0 k1 k2
          have g0 := gb_rng s (3 * r) 0; have g1 := gb_rng s (3 * r) 1; have g2 := gb_rng s (3 * r) 2
          have ho3 := or3 _ _ _ g0 g1 g2
          have hX : Aside0 (gb s (3 * r) 0 * 65536 + gb s (3 * r) 1 * 256 + gb s (3 * r) 2 = gx s (3 * r)) := ⟨rfl⟩
          have x0 : 0 ≤ gx s (3 * r) ∧ gx s (3 * r) < 16777216 := by unfold gx; omega
          have hgrp := Aside0.mk (show grp s (3 * r) = [sig (gx s (3 * r) / 262144 % 64), sig (gx s (3 * r) / 4096 % 64), sig (gx s (3 * r) / 64 % 64), sig (gx s (3 * r) % 64)] from by simp [grp, h1, h2])
          rw [hX.out] at ho3
          generalize gb s (3 * r) 0 = y0 at *; generalize gb s (3 * r) 1 = y1 at *; generalize gb s (3 * r) 2 = y2 at *
          generalize gx s (3 * r) = X at *
          clear hsl hcells hrow hgb hbb hb7 hX hn
          have z0 := and63 (X / 262144) (by omega) (by omega); have z1 := and63 (X / 4096) (by omega) (by omega); have z2 := and63 (X / 64) (by omega) (by omega); have z3 := and63 X (by omega) (by omega)
          have s0 : ∀ h, (((⟨#[65, 66, 67, 68, 69, 70, 71, 72, 73, 74, 75, 76, 77, 78, 79, 80, 81, 82, 83, 84, 85, 86, 87, 88, 89, 90, 97, 98, 99, 100, 101, 102, 103, 104, 105, 106, 107, 108, 109, 110, 111, 112, 113, 114, 115, 116, 117, 118, 119, 120, 121, 122, 48, 49, 50, 51, 52, 53, 54, 55, 56, 57, 43, 47]⟩ : ByteArray)[((X / 262144) % 64).toNat]'h).toNat : Int) = sig ((X / 262144) % 64) := fun h => bt_at signsB ((X / 262144) % 64) h
          have q0 : 0 ≤ (X / 262144) % 64 ∧ (X / 262144) % 64 < 64 := by omega
          have s1 : ∀ h, (((⟨#[65, 66, 67, 68, 69, 70, 71, 72, 73, 74, 75, 76, 77, 78, 79, 80, 81, 82, 83, 84, 85, 86, 87, 88, 89, 90, 97, 98, 99, 100, 101, 102, 103, 104, 105, 106, 107, 108, 109, 110, 111, 112, 113, 114, 115, 116, 117, 118, 119, 120, 121, 122, 48, 49, 50, 51, 52, 53, 54, 55, 56, 57, 43, 47]⟩ : ByteArray)[((X / 4096) % 64).toNat]'h).toNat : Int) = sig ((X / 4096) % 64) := fun h => bt_at signsB ((X / 4096) % 64) h
          have q1 : 0 ≤ (X / 4096) % 64 ∧ (X / 4096) % 64 < 64 := by omega
          have s2 : ∀ h, (((⟨#[65, 66, 67, 68, 69, 70, 71, 72, 73, 74, 75, 76, 77, 78, 79, 80, 81, 82, 83, 84, 85, 86, 87, 88, 89, 90, 97, 98, 99, 100, 101, 102, 103, 104, 105, 106, 107, 108, 109, 110, 111, 112, 113, 114, 115, 116, 117, 118, 119, 120, 121, 122, 48, 49, 50, 51, 52, 53, 54, 55, 56, 57, 43, 47]⟩ : ByteArray)[((X / 64) % 64).toNat]'h).toNat : Int) = sig ((X / 64) % 64) := fun h => bt_at signsB ((X / 64) % 64) h
          have q2 : 0 ≤ (X / 64) % 64 ∧ (X / 64) % 64 < 64 := by omega
          have s3 : ∀ h, (((⟨#[65, 66, 67, 68, 69, 70, 71, 72, 73, 74, 75, 76, 77, 78, 79, 80, 81, 82, 83, 84, 85, 86, 87, 88, 89, 90, 97, 98, 99, 100, 101, 102, 103, 104, 105, 106, 107, 108, 109, 110, 111, 112, 113, 114, 115, 116, 117, 118, 119, 120, 121, 122, 48, 49, 50, 51, 52, 53, 54, 55, 56, 57, 43, 47]⟩ : ByteArray)[((X) % 64).toNat]'h).toNat : Int) = sig ((X) % 64) := fun h => bt_at signsB ((X) % 64) h
          have q3 : 0 ≤ (X) % 64 ∧ (X) % 64 < 64 := by omega
          go_wp2_with fail
          refine wp_loop_rounds 5 ?_
          have tok0 : True := trivial
          rw [rounds_succ]
          go_wp2_with ((with_reducible refine gate_builtin (b := .append) (xs := #[.tmp 45, .tmp 54]) rfl ?_); have _t := tok0; at_builtin; refine Kd.R_append (Kd.int .u8) (w0 := w) w.heap.size rfl (.tmp 45) (.tmp 54) 22 5 (.int .u8 0) 1 rfl Tryz.underlying22 info5 rfl (by decide) (by omega) u4 (b64n s r) (sig (X / 262144 % 64)) [.int .u8 (sig (X / 262144 % 64))] (fun _ => True) (fun _ => False) rfl rfl ?aP0 (fun _ hk => hk.elim) ?aF0 ?aO0 ?aB0 ?aS0 ?aL0 ?_; (case aO0 => exact HO.out); (case aP0 => exact rfl); (case aB0 => exact HB.out); (case aF0 => exact (fun _ _ => trivial)); (case aS0 => exact HB.out.size); (case aL0 => simp only [List.length_append, List.length_cons, List.length_nil, b64n_len]; omega); intro v0 w0 ho hb hg hat; replace HO := Aside0.mk ho; replace HB := Aside0.mk hb; clear ho hb hg hat _t tok0)
          have tok1 : True := trivial
          rw [rounds_succ]
          go_wp2_with ((with_reducible refine gate_builtin (b := .append) (xs := #[.tmp 45, .tmp 54]) rfl ?_); have _t := tok1; at_builtin; refine Kd.R_append (Kd.int .u8) (w0 := w) w.heap.size rfl (.tmp 45) (.tmp 54) 22 5 (.int .u8 0) 1 rfl Tryz.underlying22 info5 rfl (by decide) (by omega) v0 ((b64n s r) ++ [sig (X / 262144 % 64)]) (sig (X / 4096 % 64)) [.int .u8 (sig (X / 4096 % 64))] (fun _ => True) (fun _ => False) rfl rfl ?aP1 (fun _ hk => hk.elim) ?aF1 ?aO1 ?aB1 ?aS1 ?aL1 ?_; (case aO1 => exact HO.out); (case aP1 => exact rfl); (case aB1 => exact HB.out); (case aF1 => exact (fun _ _ => trivial)); (case aS1 => exact HB.out.size); (case aL1 => simp only [List.length_append, List.length_cons, List.length_nil, b64n_len]; omega); intro v1 w1 ho hb hg hat; replace HO := Aside0.mk ho; replace HB := Aside0.mk hb; clear ho hb hg hat _t tok1)
          have tok2 : True := trivial
          rw [rounds_succ]
          go_wp2_with ((with_reducible refine gate_builtin (b := .append) (xs := #[.tmp 45, .tmp 54]) rfl ?_); have _t := tok2; at_builtin; refine Kd.R_append (Kd.int .u8) (w0 := w) w.heap.size rfl (.tmp 45) (.tmp 54) 22 5 (.int .u8 0) 1 rfl Tryz.underlying22 info5 rfl (by decide) (by omega) v1 (((b64n s r) ++ [sig (X / 262144 % 64)]) ++ [sig (X / 4096 % 64)]) (sig (X / 64 % 64)) [.int .u8 (sig (X / 64 % 64))] (fun _ => True) (fun _ => False) rfl rfl ?aP2 (fun _ hk => hk.elim) ?aF2 ?aO2 ?aB2 ?aS2 ?aL2 ?_; (case aO2 => exact HO.out); (case aP2 => exact rfl); (case aB2 => exact HB.out); (case aF2 => exact (fun _ _ => trivial)); (case aS2 => exact HB.out.size); (case aL2 => simp only [List.length_append, List.length_cons, List.length_nil, b64n_len]; omega); intro v2 w2 ho hb hg hat; replace HO := Aside0.mk ho; replace HB := Aside0.mk hb; clear ho hb hg hat _t tok2)
          have tok3 : True := trivial
          rw [rounds_succ]
          go_wp2_with ((with_reducible refine gate_builtin (b := .append) (xs := #[.tmp 45, .tmp 54]) rfl ?_); have _t := tok3; at_builtin; refine Kd.R_append (Kd.int .u8) (w0 := w) w.heap.size rfl (.tmp 45) (.tmp 54) 22 5 (.int .u8 0) 1 rfl Tryz.underlying22 info5 rfl (by decide) (by omega) v2 ((((b64n s r) ++ [sig (X / 262144 % 64)]) ++ [sig (X / 4096 % 64)]) ++ [sig (X / 64 % 64)]) (sig (X % 64)) [.int .u8 (sig (X % 64))] (fun _ => True) (fun _ => False) rfl rfl ?aP3 (fun _ hk => hk.elim) ?aF3 ?aO3 ?aB3 ?aS3 ?aL3 ?_; (case aO3 => exact HO.out); (case aP3 => exact rfl); (case aB3 => exact HB.out); (case aF3 => exact (fun _ _ => trivial)); (case aS3 => exact HB.out.size); (case aL3 => simp only [List.length_append, List.length_cons, List.length_nil, b64n_len]; omega); intro v3 w3 ho hb hg hat; replace HO := Aside0.mk ho; replace HB := Aside0.mk hb; clear ho hb hg hat _t tok3)
          rw [rounds_succ]
          go_wp2_with fail
          go_roundg ((s.size + 2) / 3 - (r + 1))
          case measure => have := hg.out; omega
          case rel => exact ⟨r + 1, by omega, by go_num, ⟨rfl⟩, ⟨by rw [hnext.out, hgrp.out]; simpa using HO.out⟩, HB⟩
        · have hn : 2 = min (s.extract (3 * r) s.size).size 3 := by simp; omega
          have hcells := Aside0.mk (group_cells s (3 * r) hlt 2 hn)
          replace hn := Aside0.mk hn
          have hsl := fun w => run_slice_string_l (P := Tryz.prog) w 9 s Tryz.underlying9 .i64 (3 * (r : Int)) (by omega) (by omega)
          rw [show (3 * (r : Int)).toNat = 3 * r from by omega] at hsl
          go_wp2_with fail
          refine wp_region_still_tail 4 (by kernel_rfl) (by kernel_rfl) ?_
          simp only [List.take_succ_cons, List.take_zero, List.drop_succ_cons, List.drop_zero]
          repeat still_step
          refine wpStill_nil ?_
          change wpList _ _ _ _ _ (wr.alloc (.cells #[.int .u8 0, .int .u8 0, .int .u8 0] 239)).drew
          have hgb := heap_new wr (.cells #[.int .u8 0, .int .u8 0, .int .u8 0] 239)
          have hbb := below_drew (below_alloc (Below.refl wr.heap.size wr) (.cells #[.int .u8 0, .int .u8 0, .int .u8 0] 239))
          refine copyStr rfl (.tmp 18) (.tmp 21) 22 9 rfl 5 Tryz.underlying22 (by kernel_rfl) wr.heap.size 3 3 2 (s.extract (3 * r) s.size) #[.int .u8 0, .int .u8 0, .int .u8 0] 239 rfl rfl hgb hn.out (by decide) ?_
          have hrow := row_fr (w := (wr.alloc (.cells #[.int .u8 0, .int .u8 0, .int .u8 0] 239)).drew) (cs' := (Lib.byteCells ((s.extract (3 * r) s.size).data.toList.take 2) ++ (#[Value.int .u8 0, .int .u8 0, .int .u8 0] : Array Value).toList.drop 2).toArray) hgb
          rw [show (#[Value.int .u8 0, .int .u8 0, .int .u8 0] : Array Value).toList = [Value.int .u8 0, .int .u8 0, .int .u8 0] from rfl, hcells.out] at hrow ⊢
          generalize World.setRow (wr.alloc (.cells #[.int .u8 0, .int .u8 0, .int .u8 0] 239)).drew wr.heap.size [Value.int .u8 (gb s (3 * r) 0), .int .u8 (gb s (3 * r) 1), .int .u8 (gb s (3 * r) 2)].toArray = w7 at *
          have hb7 : Below wr.heap.size wr w7 := hbb.trans (hrow.1.below (by have := hbb.size; exact this) (fun k _ h => by omega))
          replace HO := Aside0.mk (Kd.R_below HO.out hb7)
          replace HB := Aside0.mk (below_then HB.out HB.out.size hb7)
          have k0 := cell_at hrow.2 0; have k1 := cell_at hrow.2 1; have k2 := cell_at hrow.2 2
          simp at k0 k1 k2
          have g0 := gb_rng s (3 * r) 0; have g1 := gb_rng s (3 * r) 1; have g2 := gb_rng s (3 * r) 2
          have ho3 := or3 _ _ _ g0 g1 g2
          have hX : Aside0 (gb s (3 * r) 0 * 65536 + gb s (3 * r) 1 * 256 + gb s (3 * r) 2 = gx s (3 * r)) := ⟨rfl⟩
          have x0 : 0 ≤ gx s (3 * r) ∧ gx s (3 * r) < 16777216 := by unfold gx; omega
          have hgrp := Aside0.mk (show grp s (3 * r) = [sig (gx s (3 * r) / 262144 % 64), sig (gx s (3 * r) / 4096 % 64), sig (gx s (3 * r) / 64 % 64), 61] from by simp [grp, h1, h2])
          rw [hX.out] at ho3
          generalize gb s (3 * r) 0 = y0 at *; generalize gb s (3 * r) 1 = y1 at *; generalize gb s (3 * r) 2 = y2 at *
          generalize gx s (3 * r) = X at *
          clear hsl hcells hrow hgb hbb hb7 hX hn
          have z0 := and63 (X / 262144) (by omega) (by omega); have z1 := and63 (X / 4096) (by omega) (by omega); have z2 := and63 (X / 64) (by omega) (by omega); have z3 := and63 X (by omega) (by omega)
          have s0 : ∀ h, (((⟨#[65, 66, 67, 68, 69, 70, 71, 72, 73, 74, 75, 76, 77, 78, 79, 80, 81, 82, 83, 84, 85, 86, 87, 88, 89, 90, 97, 98, 99, 100, 101, 102, 103, 104, 105, 106, 107, 108, 109, 110, 111, 112, 113, 114, 115, 116, 117, 118, 119, 120, 121, 122, 48, 49, 50, 51, 52, 53, 54, 55, 56, 57, 43, 47]⟩ : ByteArray)[((X / 262144) % 64).toNat]'h).toNat : Int) = sig ((X / 262144) % 64) := fun h => bt_at signsB ((X / 262144) % 64) h
          have q0 : 0 ≤ (X / 262144) % 64 ∧ (X / 262144) % 64 < 64 := by omega
          have s1 : ∀ h, (((⟨#[65, 66, 67, 68, 69, 70, 71, 72, 73, 74, 75, 76, 77, 78, 79, 80, 81, 82, 83, 84, 85, 86, 87, 88, 89, 90, 97, 98, 99, 100, 101, 102, 103, 104, 105, 106, 107, 108, 109, 110, 111, 112, 113, 114, 115, 116, 117, 118, 119, 120, 121, 122, 48, 49, 50, 51, 52, 53, 54, 55, 56, 57, 43, 47]⟩ : ByteArray)[((X / 4096) % 64).toNat]'h).toNat : Int) = sig ((X / 4096) % 64) := fun h => bt_at signsB ((X / 4096) % 64) h
          have q1 : 0 ≤ (X / 4096) % 64 ∧ (X / 4096) % 64 < 64 := by omega
          have s2 : ∀ h, (((⟨#[65, 66, 67, 68, 69, 70, 71, 72, 73, 74, 75, 76, 77, 78, 79, 80, 81, 82, 83, 84, 85, 86, 87, 88, 89, 90, 97, 98, 99, 100, 101, 102, 103, 104, 105, 106, 107, 108, 109, 110, 111, 112, 113, 114, 115, 116, 117, 118, 119, 120, 121, 122, 48, 49, 50, 51, 52, 53, 54, 55, 56, 57, 43, 47]⟩ : ByteArray)[((X / 64) % 64).toNat]'h).toNat : Int) = sig ((X / 64) % 64) := fun h => bt_at signsB ((X / 64) % 64) h
          have q2 : 0 ≤ (X / 64) % 64 ∧ (X / 64) % 64 < 64 := by omega
          have s3 : ∀ h, (((⟨#[65, 66, 67, 68, 69, 70, 71, 72, 73, 74, 75, 76, 77, 78, 79, 80, 81, 82, 83, 84, 85, 86, 87, 88, 89, 90, 97, 98, 99, 100, 101, 102, 103, 104, 105, 106, 107, 108, 109, 110, 111, 112, 113, 114, 115, 116, 117, 118, 119, 120, 121, 122, 48, 49, 50, 51, 52, 53, 54, 55, 56, 57, 43, 47]⟩ : ByteArray)[((X) % 64).toNat]'h).toNat : Int) = sig ((X) % 64) := fun h => bt_at signsB ((X) % 64) h
          have q3 : 0 ≤ (X) % 64 ∧ (X) % 64 < 64 := by omega
          go_wp2_with fail
          refine wp_loop_rounds 5 ?_
          have tok0 : True := trivial
          rw [rounds_succ]
          go_wp2_with ((with_reducible refine gate_builtin (b := .append) (xs := #[.tmp 45, .tmp 54]) rfl ?_); have _t := tok0; at_builtin; refine Kd.R_append (Kd.int .u8) (w0 := w) w.heap.size rfl (.tmp 45) (.tmp 54) 22 5 (.int .u8 0) 1 rfl Tryz.underlying22 info5 rfl (by decide) (by omega) u4 (b64n s r) (sig (X / 262144 % 64)) [.int .u8 (sig (X / 262144 % 64))] (fun _ => True) (fun _ => False) rfl rfl ?aP0 (fun _ hk => hk.elim) ?aF0 ?aO0 ?aB0 ?aS0 ?aL0 ?_; (case aO0 => exact HO.out); (case aP0 => exact rfl); (case aB0 => exact HB.out); (case aF0 => exact (fun _ _ => trivial)); (case aS0 => exact HB.out.size); (case aL0 => simp only [List.length_append, List.length_cons, List.length_nil, b64n_len]; omega); intro v0 w0 ho hb hg hat; replace HO := Aside0.mk ho; replace HB := Aside0.mk hb; clear ho hb hg hat _t tok0)
          have tok1 : True := trivial
          rw [rounds_succ]
          go_wp2_with ((with_reducible refine gate_builtin (b := .append) (xs := #[.tmp 45, .tmp 54]) rfl ?_); have _t := tok1; at_builtin; refine Kd.R_append (Kd.int .u8) (w0 := w) w.heap.size rfl (.tmp 45) (.tmp 54) 22 5 (.int .u8 0) 1 rfl Tryz.underlying22 info5 rfl (by decide) (by omega) v0 ((b64n s r) ++ [sig (X / 262144 % 64)]) (sig (X / 4096 % 64)) [.int .u8 (sig (X / 4096 % 64))] (fun _ => True) (fun _ => False) rfl rfl ?aP1 (fun _ hk => hk.elim) ?aF1 ?aO1 ?aB1 ?aS1 ?aL1 ?_; (case aO1 => exact HO.out); (case aP1 => exact rfl); (case aB1 => exact HB.out); (case aF1 => exact (fun _ _ => trivial)); (case aS1 => exact HB.out.size); (case aL1 => simp only [List.length_append, List.length_cons, List.length_nil, b64n_len]; omega); intro v1 w1 ho hb hg hat; replace HO := Aside0.mk ho; replace HB := Aside0.mk hb; clear ho hb hg hat _t tok1)
          have tok2 : True := trivial
          rw [rounds_succ]
          go_wp2_with ((with_reducible refine gate_builtin (b := .append) (xs := #[.tmp 45, .tmp 54]) rfl ?_); have _t := tok2; at_builtin; refine Kd.R_append (Kd.int .u8) (w0 := w) w.heap.size rfl (.tmp 45) (.tmp 54) 22 5 (.int .u8 0) 1 rfl Tryz.underlying22 info5 rfl (by decide) (by omega) v1 (((b64n s r) ++ [sig (X / 262144 % 64)]) ++ [sig (X / 4096 % 64)]) (sig (X / 64 % 64)) [.int .u8 (sig (X / 64 % 64))] (fun _ => True) (fun _ => False) rfl rfl ?aP2 (fun _ hk => hk.elim) ?aF2 ?aO2 ?aB2 ?aS2 ?aL2 ?_; (case aO2 => exact HO.out); (case aP2 => exact rfl); (case aB2 => exact HB.out); (case aF2 => exact (fun _ _ => trivial)); (case aS2 => exact HB.out.size); (case aL2 => simp only [List.length_append, List.length_cons, List.length_nil, b64n_len]; omega); intro v2 w2 ho hb hg hat; replace HO := Aside0.mk ho; replace HB := Aside0.mk hb; clear ho hb hg hat _t tok2)
          have tok3 : True := trivial
          rw [rounds_succ]
          go_wp2_with ((with_reducible refine gate_builtin (b := .append) (xs := #[.tmp 42, .tmp 43]) rfl ?_); have _t := tok3; at_builtin; refine Kd.R_append (Kd.int .u8) (w0 := w) w.heap.size rfl (.tmp 42) (.tmp 43) 22 5 (.int .u8 0) 1 rfl Tryz.underlying22 info5 rfl (by decide) (by omega) v2 ((((b64n s r) ++ [sig (X / 262144 % 64)]) ++ [sig (X / 4096 % 64)]) ++ [sig (X / 64 % 64)]) (61) [.int .u8 (61)] (fun _ => True) (fun _ => False) rfl rfl ?aP3 (fun _ hk => hk.elim) ?aF3 ?aO3 ?aB3 ?aS3 ?aL3 ?_; (case aO3 => exact HO.out); (case aP3 => exact rfl); (case aB3 => exact HB.out); (case aF3 => exact (fun _ _ => trivial)); (case aS3 => exact HB.out.size); (case aL3 => simp only [List.length_append, List.length_cons, List.length_nil, b64n_len]; omega); intro v3 w3 ho hb hg hat; replace HO := Aside0.mk ho; replace HB := Aside0.mk hb; clear ho hb hg hat _t tok3)
          rw [rounds_succ]
          go_wp2_with fail
          go_roundg ((s.size + 2) / 3 - (r + 1))
          case measure => have := hg.out; omega
          case rel => exact ⟨r + 1, by omega, by go_num, ⟨rfl⟩, ⟨by rw [hnext.out, hgrp.out]; simpa using HO.out⟩, HB⟩
      · have hn : 1 = min (s.extract (3 * r) s.size).size 3 := by simp; omega
        have hcells := Aside0.mk (group_cells s (3 * r) hlt 1 hn)
        replace hn := Aside0.mk hn
        have hsl := fun w => run_slice_string_l (P := Tryz.prog) w 9 s Tryz.underlying9 .i64 (3 * (r : Int)) (by omega) (by omega)
        rw [show (3 * (r : Int)).toNat = 3 * r from by omega] at hsl
        go_wp2_with fail
        refine wp_region_still_tail 4 (by kernel_rfl) (by kernel_rfl) ?_
        simp only [List.take_succ_cons, List.take_zero, List.drop_succ_cons, List.drop_zero]
        repeat still_step
        refine wpStill_nil ?_
        change wpList _ _ _ _ _ (wr.alloc (.cells #[.int .u8 0, .int .u8 0, .int .u8 0] 239)).drew
        have hgb := heap_new wr (.cells #[.int .u8 0, .int .u8 0, .int .u8 0] 239)
        have hbb := below_drew (below_alloc (Below.refl wr.heap.size wr) (.cells #[.int .u8 0, .int .u8 0, .int .u8 0] 239))
        refine copyStr rfl (.tmp 18) (.tmp 21) 22 9 rfl 5 Tryz.underlying22 (by kernel_rfl) wr.heap.size 3 3 1 (s.extract (3 * r) s.size) #[.int .u8 0, .int .u8 0, .int .u8 0] 239 rfl rfl hgb hn.out (by decide) ?_
        have hrow := row_fr (w := (wr.alloc (.cells #[.int .u8 0, .int .u8 0, .int .u8 0] 239)).drew) (cs' := (Lib.byteCells ((s.extract (3 * r) s.size).data.toList.take 1) ++ (#[Value.int .u8 0, .int .u8 0, .int .u8 0] : Array Value).toList.drop 1).toArray) hgb
        rw [show (#[Value.int .u8 0, .int .u8 0, .int .u8 0] : Array Value).toList = [Value.int .u8 0, .int .u8 0, .int .u8 0] from rfl, hcells.out] at hrow ⊢
        generalize World.setRow (wr.alloc (.cells #[.int .u8 0, .int .u8 0, .int .u8 0] 239)).drew wr.heap.size [Value.int .u8 (gb s (3 * r) 0), .int .u8 (gb s (3 * r) 1), .int .u8 (gb s (3 * r) 2)].toArray = w7 at *
        have hb7 : Below wr.heap.size wr w7 := hbb.trans (hrow.1.below (by have := hbb.size; exact this) (fun k _ h => by omega))
        replace HO := Aside0.mk (Kd.R_below HO.out hb7)
        replace HB := Aside0.mk (below_then HB.out HB.out.size hb7)
        have k0 := cell_at hrow.2 0; have k1 := cell_at hrow.2 1; have k2 := cell_at hrow.2 2
        simp at k0 k1 k2
        have g0 := gb_rng s (3 * r) 0; have g1 := gb_rng s (3 * r) 1; have g2 := gb_rng s (3 * r) 2
        have ho3 := or3 _ _ _ g0 g1 g2
        have hX : Aside0 (gb s (3 * r) 0 * 65536 + gb s (3 * r) 1 * 256 + gb s (3 * r) 2 = gx s (3 * r)) := ⟨rfl⟩
        have x0 : 0 ≤ gx s (3 * r) ∧ gx s (3 * r) < 16777216 := by unfold gx; omega
        have hgrp := Aside0.mk (show grp s (3 * r) = [sig (gx s (3 * r) / 262144 % 64), sig (gx s (3 * r) / 4096 % 64), 61, 61] from by simp [grp, h1, show ¬ 3 * r + 2 < s.size from by omega])
        rw [hX.out] at ho3
        generalize gb s (3 * r) 0 = y0 at *; generalize gb s (3 * r) 1 = y1 at *; generalize gb s (3 * r) 2 = y2 at *
        generalize gx s (3 * r) = X at *
        clear hsl hcells hrow hgb hbb hb7 hX hn
        have z0 := and63 (X / 262144) (by omega) (by omega); have z1 := and63 (X / 4096) (by omega) (by omega); have z2 := and63 (X / 64) (by omega) (by omega); have z3 := and63 X (by omega) (by omega)
        have s0 : ∀ h, (((⟨#[65, 66, 67, 68, 69, 70, 71, 72, 73, 74, 75, 76, 77, 78, 79, 80, 81, 82, 83, 84, 85, 86, 87, 88, 89, 90, 97, 98, 99, 100, 101, 102, 103, 104, 105, 106, 107, 108, 109, 110, 111, 112, 113, 114, 115, 116, 117, 118, 119, 120, 121, 122, 48, 49, 50, 51, 52, 53, 54, 55, 56, 57, 43, 47]⟩ : ByteArray)[((X / 262144) % 64).toNat]'h).toNat : Int) = sig ((X / 262144) % 64) := fun h => bt_at signsB ((X / 262144) % 64) h
        have q0 : 0 ≤ (X / 262144) % 64 ∧ (X / 262144) % 64 < 64 := by omega
        have s1 : ∀ h, (((⟨#[65, 66, 67, 68, 69, 70, 71, 72, 73, 74, 75, 76, 77, 78, 79, 80, 81, 82, 83, 84, 85, 86, 87, 88, 89, 90, 97, 98, 99, 100, 101, 102, 103, 104, 105, 106, 107, 108, 109, 110, 111, 112, 113, 114, 115, 116, 117, 118, 119, 120, 121, 122, 48, 49, 50, 51, 52, 53, 54, 55, 56, 57, 43, 47]⟩ : ByteArray)[((X / 4096) % 64).toNat]'h).toNat : Int) = sig ((X / 4096) % 64) := fun h => bt_at signsB ((X / 4096) % 64) h
        have q1 : 0 ≤ (X / 4096) % 64 ∧ (X / 4096) % 64 < 64 := by omega
        have s2 : ∀ h, (((⟨#[65, 66, 67, 68, 69, 70, 71, 72, 73, 74, 75, 76, 77, 78, 79, 80, 81, 82, 83, 84, 85, 86, 87, 88, 89, 90, 97, 98, 99, 100, 101, 102, 103, 104, 105, 106, 107, 108, 109, 110, 111, 112, 113, 114, 115, 116, 117, 118, 119, 120, 121, 122, 48, 49, 50, 51, 52, 53, 54, 55, 56, 57, 43, 47]⟩ : ByteArray)[((X / 64) % 64).toNat]'h).toNat : Int) = sig ((X / 64) % 64) := fun h => bt_at signsB ((X / 64) % 64) h
        have q2 : 0 ≤ (X / 64) % 64 ∧ (X / 64) % 64 < 64 := by omega
        have s3 : ∀ h, (((⟨#[65, 66, 67, 68, 69, 70, 71, 72, 73, 74, 75, 76, 77, 78, 79, 80, 81, 82, 83, 84, 85, 86, 87, 88, 89, 90, 97, 98, 99, 100, 101, 102, 103, 104, 105, 106, 107, 108, 109, 110, 111, 112, 113, 114, 115, 116, 117, 118, 119, 120, 121, 122, 48, 49, 50, 51, 52, 53, 54, 55, 56, 57, 43, 47]⟩ : ByteArray)[((X) % 64).toNat]'h).toNat : Int) = sig ((X) % 64) := fun h => bt_at signsB ((X) % 64) h
        have q3 : 0 ≤ (X) % 64 ∧ (X) % 64 < 64 := by omega
        go_wp2_with fail
        refine wp_loop_rounds 5 ?_
        have tok0 : True := trivial
        rw [rounds_succ]
        go_wp2_with ((with_reducible refine gate_builtin (b := .append) (xs := #[.tmp 45, .tmp 54]) rfl ?_); have _t := tok0; at_builtin; refine Kd.R_append (Kd.int .u8) (w0 := w) w.heap.size rfl (.tmp 45) (.tmp 54) 22 5 (.int .u8 0) 1 rfl Tryz.underlying22 info5 rfl (by decide) (by omega) u4 (b64n s r) (sig (X / 262144 % 64)) [.int .u8 (sig (X / 262144 % 64))] (fun _ => True) (fun _ => False) rfl rfl ?aP0 (fun _ hk => hk.elim) ?aF0 ?aO0 ?aB0 ?aS0 ?aL0 ?_; (case aO0 => exact HO.out); (case aP0 => exact rfl); (case aB0 => exact HB.out); (case aF0 => exact (fun _ _ => trivial)); (case aS0 => exact HB.out.size); (case aL0 => simp only [List.length_append, List.length_cons, List.length_nil, b64n_len]; omega); intro v0 w0 ho hb hg hat; replace HO := Aside0.mk ho; replace HB := Aside0.mk hb; clear ho hb hg hat _t tok0)
        have tok1 : True := trivial
        rw [rounds_succ]
        go_wp2_with ((with_reducible refine gate_builtin (b := .append) (xs := #[.tmp 45, .tmp 54]) rfl ?_); have _t := tok1; at_builtin; refine Kd.R_append (Kd.int .u8) (w0 := w) w.heap.size rfl (.tmp 45) (.tmp 54) 22 5 (.int .u8 0) 1 rfl Tryz.underlying22 info5 rfl (by decide) (by omega) v0 ((b64n s r) ++ [sig (X / 262144 % 64)]) (sig (X / 4096 % 64)) [.int .u8 (sig (X / 4096 % 64))] (fun _ => True) (fun _ => False) rfl rfl ?aP1 (fun _ hk => hk.elim) ?aF1 ?aO1 ?aB1 ?aS1 ?aL1 ?_; (case aO1 => exact HO.out); (case aP1 => exact rfl); (case aB1 => exact HB.out); (case aF1 => exact (fun _ _ => trivial)); (case aS1 => exact HB.out.size); (case aL1 => simp only [List.length_append, List.length_cons, List.length_nil, b64n_len]; omega); intro v1 w1 ho hb hg hat; replace HO := Aside0.mk ho; replace HB := Aside0.mk hb; clear ho hb hg hat _t tok1)
        have tok2 : True := trivial
        rw [rounds_succ]
        go_wp2_with ((with_reducible refine gate_builtin (b := .append) (xs := #[.tmp 42, .tmp 43]) rfl ?_); have _t := tok2; at_builtin; refine Kd.R_append (Kd.int .u8) (w0 := w) w.heap.size rfl (.tmp 42) (.tmp 43) 22 5 (.int .u8 0) 1 rfl Tryz.underlying22 info5 rfl (by decide) (by omega) v1 (((b64n s r) ++ [sig (X / 262144 % 64)]) ++ [sig (X / 4096 % 64)]) (61) [.int .u8 (61)] (fun _ => True) (fun _ => False) rfl rfl ?aP2 (fun _ hk => hk.elim) ?aF2 ?aO2 ?aB2 ?aS2 ?aL2 ?_; (case aO2 => exact HO.out); (case aP2 => exact rfl); (case aB2 => exact HB.out); (case aF2 => exact (fun _ _ => trivial)); (case aS2 => exact HB.out.size); (case aL2 => simp only [List.length_append, List.length_cons, List.length_nil, b64n_len]; omega); intro v2 w2 ho hb hg hat; replace HO := Aside0.mk ho; replace HB := Aside0.mk hb; clear ho hb hg hat _t tok2)
        have tok3 : True := trivial
        rw [rounds_succ]
        go_wp2_with ((with_reducible refine gate_builtin (b := .append) (xs := #[.tmp 42, .tmp 43]) rfl ?_); have _t := tok3; at_builtin; refine Kd.R_append (Kd.int .u8) (w0 := w) w.heap.size rfl (.tmp 42) (.tmp 43) 22 5 (.int .u8 0) 1 rfl Tryz.underlying22 info5 rfl (by decide) (by omega) v2 ((((b64n s r) ++ [sig (X / 262144 % 64)]) ++ [sig (X / 4096 % 64)]) ++ [61]) (61) [.int .u8 (61)] (fun _ => True) (fun _ => False) rfl rfl ?aP3 (fun _ hk => hk.elim) ?aF3 ?aO3 ?aB3 ?aS3 ?aL3 ?_; (case aO3 => exact HO.out); (case aP3 => exact rfl); (case aB3 => exact HB.out); (case aF3 => exact (fun _ _ => trivial)); (case aS3 => exact HB.out.size); (case aL3 => simp only [List.length_append, List.length_cons, List.length_nil, b64n_len]; omega); intro v3 w3 ho hb hg hat; replace HO := Aside0.mk ho; replace HB := Aside0.mk hb; clear ho hb hg hat _t tok3)
        rw [rounds_succ]
        go_wp2_with fail
        go_roundg ((s.size + 2) / 3 - (r + 1))
        case measure => have := hg.out; omega
        case rel => exact ⟨r + 1, by omega, by go_num, ⟨rfl⟩, ⟨by rw [hnext.out, hgrp.out]; simpa using HO.out⟩, HB⟩
    · have hre : r = (s.size + 2) / 3 := by omega
      have hcv := own_string (P := Tryz.prog) Tryz.underlying22 Tryz.underlying5 Tryz.underlying9 (Kd.own_of_R HO.out)
      replace hre := Aside0.mk hre
      go_wp2
      go_ret
      exact ⟨by rw [hre.out]; rfl, HB.out⟩
end H
end Go.Proofs.YtkihaebaccdjdaaGreatDoor
