import Derived.Test.YtkihaebaccdjdaaGreatDoorJ4
import Derived.Test.YtkihaebaccdjdaaGreatDoorJ6
set_option linter.unusedVariables false
set_option linter.unusedSimpArgs false
namespace Go.Proofs.YtkihaebaccdjdaaGreatDoor
open Go.RowKit Go.Proofs.YtkihaebaccdjdaaGreatDoorW.PrintWords Go.Proofs.YtkihaebaccdjdaaGreatDoorW.PrintLast Go.Proofs.YtkihaebaccdjdaaGreatDoorW.PrintMore
open Go.Sort (putRow cell?_putRow)
namespace H
/-! ### strconv's appends, with a frame of the row alone -/
theorem digs_len (u : Nat) : (bytesOf ⟨(Lib.decDigits u).toArray⟩).length = (Lib.decDigits u).length := by
  rw [bytesOf_length]; simp [ByteArray.size]
theorem digs_le (u : Nat) (h : u < 18446744073709551616) : (Lib.decDigits u).length ≤ 20 := by
  rw [Lib.decDigits_length]
  by_cases h1 : 1 ≤ u
  · have := Lib.numDigits_eq u h1 h; split at this <;> omega
  · rw [Lib.nDigits_small (by omega)]; omega
/-- What an append leaves: the row, and all else as it was. -/
def Appd (B : Nat) (sv : Value) (zs : List Int) (w : World) (e : Ending) (w' : World) : Prop :=
  ∃ v1, e = .returned v1 ∧ w'.ownsRow B 5 1 v1 zs.length (nums .u8 zs) ∧ Fr (fun k => sv.ownBlock = some k) w w' ∧ (v1.ownBlock = sv.ownBlock ∨ ∃ b, v1.ownBlock = some b ∧ w.heap.size ≤ b)
theorem fr_grown {w w1 : World} {v : Value} (hg : w.grownBy w1 v.ownBlock) : Fr (fun k => v.ownBlock = some k) w w1 := (Fr.refl _ w).grown hg (fun k hk => .inl hk)
set_option maxHeartbeats 2000000 in
set_option maxRecDepth 100000 in
theorem app193 {B : Nat} {xs : List Int} (sv : Value) (b : Bool) (w : World) (HO : w.ownsRow B 5 1 sv xs.length (nums .u8 xs)) (hB : B ≤ w.heap.size) (hl : xs.length + 5 ≤ 140737488355328) :
    Calls Tryz.prog 193 #[sv, .bool b] w (Appd B sv (xs ++ bytesOf (if b then ⟨#[116, 114, 117, 101]⟩ else ⟨#[102, 97, 108, 115, 101]⟩)) w) := by
  replace HO := Aside0.mk HO
  cases b
  · go_enter Tryz.func193, Tryz.ntmps193
    go_wp2_with (at_builtin; refine app_str B rfl (.tmp 8) (.const (.string ⟨#[102, 97, 108, 115, 101]⟩)) 22 9 rfl Tryz.underlying22 Tryz.underlying9 inf5 sv xs ⟨#[102, 97, 108, 115, 101]⟩ rfl rfl HO.out hB (by show _ + 5 ≤ _; omega) ?_; intro v1 w1 ho1 hg1 hat1; replace ho1 := Aside0.mk ho1; replace hg1 := Aside0.mk hg1; replace hat1 := Aside0.mk hat1)
    go_ret
    exact ⟨v1, rfl, ho1.out, fr_grown hg1.out, hat1.out⟩
  · go_enter Tryz.func193, Tryz.ntmps193
    go_wp2_with (at_builtin; refine app_str B rfl (.tmp 6) (.const (.string ⟨#[116, 114, 117, 101]⟩)) 22 9 rfl Tryz.underlying22 Tryz.underlying9 inf5 sv xs ⟨#[116, 114, 117, 101]⟩ rfl rfl HO.out hB (by show _ + 4 ≤ _; omega) ?_; intro v1 w1 ho1 hg1 hat1; replace ho1 := Aside0.mk ho1; replace hg1 := Aside0.mk hg1; replace hat1 := Aside0.mk hat1)
    go_ret
    exact ⟨v1, rfl, ho1.out, fr_grown hg1.out, hat1.out⟩
set_option maxRecDepth 100000 in
theorem app151 {B : Nat} {xs : List Int} (sv : Value) (b : Bool) (w : World) (HO : w.ownsRow B 5 1 sv xs.length (nums .u8 xs)) (hB : B ≤ w.heap.size) (hl : xs.length + 5 ≤ 140737488355328) :
    Calls Tryz.prog 151 #[sv, .bool b] w (Appd B sv (xs ++ bytesOf (if b then ⟨#[116, 114, 117, 101]⟩ else ⟨#[102, 97, 108, 115, 101]⟩)) w) := by
  have h := app193 sv b w HO hB hl
  generalize xs ++ bytesOf (if b then ⟨#[116, 114, 117, 101]⟩ else ⟨#[102, 97, 108, 115, 101]⟩) = zs at *
  replace h := Aside0.mk h
  clear HO
  go_enter Tryz.func151, Tryz.ntmps151
  go_wp2_with fail
  refine h.out.mono ?_
  rintro e w' ⟨v1, rfl, h1, h2, h3⟩
  replace h1 := Aside0.mk h1; replace h2 := Aside0.mk h2; replace h3 := Aside0.mk h3
  go_wp2
  go_ret
  exact ⟨v1, rfl, h1.out, h2.out, h3.out⟩
set_option maxHeartbeats 4000000 in
set_option maxRecDepth 100000 in
theorem app195s {B : Nat} {xs : List Int} (sv : Value) (u : Nat) (hu : u < 100) (w : World) (HO : w.ownsRow B 5 1 sv xs.length (nums .u8 xs)) (hB : B ≤ w.heap.size) (hl : xs.length + 20 ≤ 140737488355328) :
    Calls Tryz.prog 195 #[sv, .int .u64 u, .int .i64 10] w (Appd B sv (xs ++ bytesOf ⟨(Lib.decDigits u).toArray⟩) w) := by
  replace HO := Aside0.mk HO
  have h20 : (⟨(Lib.decDigits u).toArray⟩ : ByteArray).size ≤ 20 := by have := digs_le u (by omega); simpa [ByteArray.size] using this
  have iu : ((u : Int) < 100) = True := eq_true (by omega)
  have iu1 : IntKind.i64.wrap (u : Int) = (u : Int) := by simp [IntKind.wrap, IntKind.bits, IntKind.signed]; omega
  go_enter Tryz.func195, Tryz.ntmps195
  go_wp2_with fail
  refine (Tryz.internal_strconv_small u hu w).mono ?_
  rintro e w' ⟨rfl, rfl⟩
  go_wp2_with (at_builtin; refine app_str B rfl (.tmp 13) (.tmp 16) 22 9 rfl Tryz.underlying22 Tryz.underlying9 inf5 sv xs ⟨(Lib.decDigits u).toArray⟩ rfl rfl HO.out hB (by omega) ?_; intro v1 w1 ho1 hg1 hat1; replace ho1 := Aside0.mk ho1; replace hg1 := Aside0.mk hg1; replace hat1 := Aside0.mk hat1)
  go_ret
  exact ⟨v1, rfl, ho1.out, fr_grown hg1.out, hat1.out⟩
set_option maxHeartbeats 8000000 in
set_option maxRecDepth 100000 in
theorem app195b {B : Nat} {xs : List Int} (sv : Value) (u : Nat) (hu : 100 ≤ u) (hu64 : u < 18446744073709551616) (w : World) (HO : w.ownsRow B 5 1 sv xs.length (nums .u8 xs)) (hB : B ≤ w.heap.size) (hl : xs.length + 20 ≤ 140737488355328) (htab : Lib.TabIs Tryz.prog w "internal/strconv.uint64pow10" .u64 Lib.pow10Tab) :
    Calls Tryz.prog 195 #[sv, .int .u64 u, .int .i64 10] w (Appd B sv (xs ++ bytesOf ⟨(Lib.decDigits u).toArray⟩) w) := by
  have hu1 : 1 ≤ u := by omega
  have hnd20 : Lib.nDigits u ≤ 20 := by have := digs_le u hu64; rwa [Lib.decDigits_length] at this
  have hal : Tryz.prog.arrayLen 252 = 24 := by simp [Program.arrayLen, Tryz.underlying252]
  have hsl : ∀ W, (Instr.sliceAt 252 (.pointer (some ⟨w.heap.size, 0, none⟩)) none (some (.int .i64 (Lib.nDigits u : Int))) none).run Tryz.prog W = .ok (.slice (some ⟨w.heap.size, 0, none⟩) (Lib.nDigits u) 24) W := fun W => by
    rw [run_sliceAt_array_h W 252 ⟨w.heap.size, 0, none⟩ (by simp [Program.arrayLen, Program.elem, Tryz.underlying252]) .i64 (Lib.nDigits u : Int) (by omega) (by rw [hal]; omega)]
    go_simp
  have hH0 := Lib.holds_zero0 w 252 (Lib.nDigits u) (by omega)
  have hfmt := Tryz.internal_strconv_formatBase10 w.heap.size 0 24 u (Array.replicate (Lib.nDigits u) 0) (w.alloc (.cells Lib.zeros24 252)) hH0 (by rw [Array.size_replicate]; exact Lib.lt_pow_nDigits u) hu64 (by rw [Array.size_replicate]; omega)
  rw [Array.size_replicate] at hfmt
  have HH0 := Lib.hid hH0
  have iu : ((u : Int) < 100) = False := eq_false (by omega)
  have iu2 : decide ((u : Int) < 100) = false := decide_eq_false (by omega)
  replace HO := Aside0.mk HO
  clear hH0 hal
  go_enter Tryz.func195, Tryz.ntmps195
  go_wp2_with fail
  refine (Tryz.internal_strconv_numDigits u hu1 hu64 _ (Lib.tabIs_alloc htab _)).mono ?_
  rintro e w' ⟨rfl, rfl⟩
  go_wp2_with fail
  refine hfmt.mono ?_
  rintro e w' ⟨rfl, k, v', dk, rfl, hF⟩
  have hcells : ReadsInt ((putRow (fun (b : UInt8) => Value.int .u8 (b.toNat : Int)) (w.alloc (.cells Lib.zeros24 252)) w.heap.size 0 dk).drewN k) .u8 (some ⟨w.heap.size, 0, none⟩) (Lib.nDigits u) (bytesOf ⟨(Lib.decDigits u).toArray⟩) := by
    refine ⟨by rw [digs_len, Lib.decDigits_length], by omega, fun _ => ⟨_, rfl, fun j hj => ?_⟩⟩
    have hjl : j < (Lib.decDigits u).length := by rw [Lib.decDigits_length]; exact hj
    have e5 : (bytesOf ⟨(Lib.decDigits u).toArray⟩).getD j 0 = ((Lib.decDigits u)[j].toNat : Int) := by simp [bytesOf, List.getD_eq_getElem?_getD, hjl]
    rw [e5, Lib.row_is_numeral hF j hjl, Lib.add_plain, World.cell?_drewN]
    exact cell?_putRow (fun (b : UInt8) => Value.int .u8 (b.toNat : Int)) _ w.heap.size 0 _ dk HH0.out (by rw [hF.size, Array.size_replicate]) j (by rw [hF.size]; exact hj)
  obtain ⟨os, eo⟩ := Lib.fin_at w (.cells Lib.zeros24 252) dk k 0
  have hbl : Below w.heap.size w ((putRow (fun (b : UInt8) => Value.int .u8 (b.toNat : Int)) (w.alloc (.cells Lib.zeros24 252)) w.heap.size 0 dk).drewN k) := by rw [eo]; exact Lib.below_grow w.heap.size w (Nat.le_refl _) k os
  generalize (putRow (fun (b : UInt8) => Value.int .u8 (b.toNat : Int)) (w.alloc (.cells Lib.zeros24 252)) w.heap.size 0 dk).drewN k = W2 at hcells hbl ⊢
  have HO2 := Aside0.mk ((Fr.of_below (S := fun _ => False) hbl).own HO.out (fun _ _ h => h))
  replace hcells := Aside0.mk hcells; replace hbl := Aside0.mk hbl
  clear eo HH0 hfmt HO
  go_wp2_with (at_builtin; refine print_append_row (w0 := W2) B rfl (.tmp 24) (.tmp 26) 22 5 .u8 1 rfl Tryz.underlying22 inf5 (by omega) sv xs (bytesOf ⟨(Lib.decDigits u).toArray⟩) (some ⟨w.heap.size, 0, none⟩) (Lib.nDigits u) 24 rfl rfl HO2.out hcells.out (Below.refl _ _) (Nat.le_trans hB hbl.out.size) (by omega) ?_; intro v1 w1 ho1 hb1 hg1 hat1; replace ho1 := Aside0.mk ho1; replace hg1 := Aside0.mk hg1; replace hat1 := Aside0.mk hat1)
  go_ret
  refine ⟨v1, rfl, ho1.out, (Fr.of_below (S := fun k => sv.ownBlock = some k) hbl.out).trans (fr_grown hg1.out) (fun _ _ h => h), ?_⟩
  rcases hat1.out with h | ⟨b, h1, h2⟩
  · exact .inl h
  · exact .inr ⟨b, h1, Nat.le_trans hbl.out.size h2⟩
theorem app195 {B : Nat} {xs : List Int} (sv : Value) (u : Nat) (hu64 : u < 18446744073709551616) (w : World) (HO : w.ownsRow B 5 1 sv xs.length (nums .u8 xs)) (hB : B ≤ w.heap.size) (hl : xs.length + 20 ≤ 140737488355328) (htab : Lib.TabIs Tryz.prog w "internal/strconv.uint64pow10" .u64 Lib.pow10Tab) :
    Calls Tryz.prog 195 #[sv, .int .u64 u, .int .i64 10] w (Appd B sv (xs ++ bytesOf ⟨(Lib.decDigits u).toArray⟩) w) := by
  by_cases h : u < 100
  · exact app195s sv u h w HO hB hl
  · exact app195b sv u (by omega) hu64 w HO hB hl htab
set_option maxRecDepth 100000 in
theorem app154 {B : Nat} {xs : List Int} (sv : Value) (u : Nat) (hu64 : u < 18446744073709551616) (w : World) (HO : w.ownsRow B 5 1 sv xs.length (nums .u8 xs)) (hB : B ≤ w.heap.size) (hl : xs.length + 20 ≤ 140737488355328) (htab : Lib.TabIs Tryz.prog w "internal/strconv.uint64pow10" .u64 Lib.pow10Tab) :
    Calls Tryz.prog 154 #[sv, .int .u64 u, .int .i64 10] w (Appd B sv (xs ++ bytesOf ⟨(Lib.decDigits u).toArray⟩) w) := by
  have h := app195 sv u hu64 w HO hB hl htab
  generalize xs ++ bytesOf ⟨(Lib.decDigits u).toArray⟩ = zs at *
  replace h := Aside0.mk h
  clear HO htab
  go_enter Tryz.func154, Tryz.ntmps154
  go_wp2_with fail
  refine h.out.mono ?_
  rintro e w' ⟨v1, rfl, h1, h2, h3⟩
  replace h1 := Aside0.mk h1; replace h2 := Aside0.mk h2; replace h3 := Aside0.mk h3
  go_wp2
  go_ret
  exact ⟨v1, rfl, h1.out, h2.out, h3.out⟩
/-- A number's text. -/
def itoaB (i : Int) : List Int := bytesOf ⟨(Lib.itoa i).toArray⟩
theorem itoaB_neg (u : Nat) (h : 1 ≤ u) : itoaB (-(u : Int)) = 45 :: bytesOf ⟨(Lib.decDigits u).toArray⟩ := by
  unfold itoaB
  rw [Lib.itoa_neg u h]
  simp [bytesOf]
theorem itoaB_nn (u : Nat) : itoaB (u : Int) = bytesOf ⟨(Lib.decDigits u).toArray⟩ := by
  unfold itoaB
  rw [Lib.itoa_nonneg]
set_option maxHeartbeats 8000000 in
set_option maxRecDepth 100000 in
theorem app194 {B : Nat} {xs : List Int} (sv : Value) (i : Int) (h0 : -9223372036854775808 ≤ i) (h1 : i ≤ 9223372036854775807) (w : World) (HO : w.ownsRow B 5 1 sv xs.length (nums .u8 xs)) (hB : B ≤ w.heap.size) (hl : xs.length + 21 ≤ 140737488355328)
    (htab : ∀ w1, Fr (fun k => B ≤ k) w w1 → Lib.TabIs Tryz.prog w1 "internal/strconv.uint64pow10" .u64 Lib.pow10Tab) :
    Calls Tryz.prog 194 #[sv, .int .i64 i, .int .i64 10] w (Appd B sv (xs ++ itoaB i) w) := by
  by_cases hneg : i < 0
  · obtain ⟨u, rfl⟩ : ∃ u : Nat, i = -(u : Int) := ⟨i.natAbs, by omega⟩
    have hu1 : 1 ≤ u := by omega
    have hu64 : u < 18446744073709551616 := by omega
    have hwr : IntKind.u64.wrap (-IntKind.u64.wrap (-(u : Int))) = (u : Int) := by rw [IntKind.wrap_u64, IntKind.wrap_u64]; omega
    rw [itoaB_neg u hu1]
    have hbn := below_alloc (Below.refl w.heap.size w) (.cells #[.int .u8 45] 252)
    replace HO := Aside0.mk HO; replace htab := Aside0.mk htab
    clear hbn
    go_enter Tryz.func194, Tryz.ntmps194
    go_wp2_with (at_builtin; refine print_append_row (w0 := w) B rfl (.tmp 12) (.tmp 13) 22 5 .u8 1 rfl Tryz.underlying22 inf5 (by omega) sv xs [45] (some ⟨w.heap.size, 0, none⟩) 1 1 rfl rfl ((Fr.of_below (S := fun _ => False) (below_alloc (Below.refl _ w) _)).own HO.out (fun _ _ h => h)) ⟨rfl, by omega, fun _ => ⟨_, rfl, fun j hj => by cases j with | zero => simp [Addr.add] | succ j => omega⟩⟩ (Below.mono (below_alloc (Below.refl w.heap.size w) _) hB) (Nat.le_trans hB (below_alloc (Below.refl w.heap.size w) _).size) (by omega) ?_; intro v1 w1 ho1 hb1 hg1 hat1; replace ho1 := Aside0.mk ho1; replace hg1 := Aside0.mk hg1; replace hat1 := Aside0.mk hat1; replace hb1 := Aside0.mk hb1)
    go_wp2_with fail
    have hF1 : Fr (fun k => sv.ownBlock = some k) w w1 := (Fr.of_below (S := fun k => sv.ownBlock = some k) (below_alloc (Below.refl _ w) _)).trans (fr_grown hg1.out) (fun _ _ h => h)
    have hF1' : Fr (fun k => B ≤ k) w w1 := hF1.mono (fun k _ hk => own_base HO.out k hk)
    refine (app195 v1 u hu64 w1 ho1.out (Nat.le_trans hB hF1.size) (by simp; omega) (htab.out _ hF1')).mono ?_
    rintro e w' ⟨v2, rfl, h1, h2, h3⟩
    have hF2 := Aside0.mk (hF1.trans h2 (fun k hk hs => by
      rcases hat1.out with h | ⟨b, e1, e2⟩
      · rw [← h]; exact hs
      · rw [e1] at hs; injection hs with hs; simp at e2; omega))
    have hat2 : Aside0 (v2.ownBlock = sv.ownBlock ∨ ∃ b, v2.ownBlock = some b ∧ w.heap.size ≤ b) := .mk (by
      rcases h3 with h | ⟨b, e1, e2⟩
      · rcases hat1.out with h' | ⟨b, e1, e2⟩
        · exact .inl (h.trans h')
        · exact .inr ⟨b, h.trans e1, by simp at e2; omega⟩
      · exact .inr ⟨b, e1, by have := hF1.size; omega⟩)
    replace h1 := Aside0.mk h1
    clear h2 h3 hF1 hF1' ho1 hg1 hat1 hb1 HO htab
    go_wp2
    go_ret
    refine ⟨v2, rfl, ?_, hF2.out, hat2.out⟩
    have := h1.out
    rwa [List.append_assoc] at this
  · obtain ⟨u, rfl⟩ : ∃ u : Nat, i = u := ⟨i.toNat, by omega⟩
    have hu64 : u < 18446744073709551616 := by omega
    have hwr : IntKind.u64.wrap (u : Int) = (u : Int) := by rw [IntKind.wrap_u64]; omega
    rw [itoaB_nn u]
    have h := Aside0.mk (app195 sv u hu64 w HO hB (by omega) (htab w (Fr.refl _ w)))
    clear HO htab
    generalize xs ++ bytesOf ⟨(Lib.decDigits u).toArray⟩ = zs at *
    go_enter Tryz.func194, Tryz.ntmps194
    go_wp2_with fail
    refine h.out.mono ?_
    rintro e w' ⟨v1, rfl, h1, h2, h3⟩
    replace h1 := Aside0.mk h1; replace h2 := Aside0.mk h2; replace h3 := Aside0.mk h3
    go_wp2
    go_ret
    exact ⟨v1, rfl, h1.out, h2.out, h3.out⟩
set_option maxRecDepth 100000 in
theorem app153 {B : Nat} {xs : List Int} (sv : Value) (i : Int) (h0 : -9223372036854775808 ≤ i) (h1 : i ≤ 9223372036854775807) (w : World) (HO : w.ownsRow B 5 1 sv xs.length (nums .u8 xs)) (hB : B ≤ w.heap.size) (hl : xs.length + 21 ≤ 140737488355328)
    (htab : ∀ w1, Fr (fun k => B ≤ k) w w1 → Lib.TabIs Tryz.prog w1 "internal/strconv.uint64pow10" .u64 Lib.pow10Tab) :
    Calls Tryz.prog 153 #[sv, .int .i64 i, .int .i64 10] w (Appd B sv (xs ++ itoaB i) w) := by
  have h := app194 sv i h0 h1 w HO hB hl htab
  generalize xs ++ itoaB i = zs at *
  replace h := Aside0.mk h
  clear HO htab
  go_enter Tryz.func153, Tryz.ntmps153
  go_wp2_with fail
  refine h.out.mono ?_
  rintro e w' ⟨v1, rfl, h1, h2, h3⟩
  replace h1 := Aside0.mk h1; replace h2 := Aside0.mk h2; replace h3 := Aside0.mk h3
  go_wp2
  go_ret
  exact ⟨v1, rfl, h1.out, h2.out, h3.out⟩
end H
end Go.Proofs.YtkihaebaccdjdaaGreatDoor
