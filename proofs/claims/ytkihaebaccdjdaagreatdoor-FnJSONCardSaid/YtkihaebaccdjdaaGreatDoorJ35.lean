import Derived.Test.YtkihaebaccdjdaaGreatDoorJ26
import Derived.Test.YtkihaebaccdjdaaGreatDoorJ34
import Derived.Test.YtkihaebaccdjdaaGreatDoorJ25
import Derived.Deep.RegionHeld3
import Derived.BigRegion
set_option linter.unusedVariables false
set_option linter.unusedSimpArgs false
namespace Go.Proofs.YtkihaebaccdjdaaGreatDoor
open Go.RowKit Go.Proofs.YtkihaebaccdjdaaGreatDoorW.PrintWords Go.Proofs.YtkihaebaccdjdaaGreatDoorW.PrintLast Go.Proofs.YtkihaebaccdjdaaGreatDoorW.PrintMore
open PX
namespace H
/-! ### smjson.b64 -/
theorem u64_in (n : Int) (h0 : 0 ≤ n) (h1 : n < 18446744073709551616) : IntKind.u64.wrap n = n := by
  simp [IntKind.wrap, IntKind.bits, IntKind.signed]
  omega
theorem or_natU (x y k : Nat) (h : y < 2 ^ k) (hx : x * 2 ^ k + y < 9223372036854775808) : bits .or .u64 ((x : Int) * 2 ^ k) (y : Int) = (x : Int) * 2 ^ k + y := by
  have e : (x : Int) * 2 ^ k = ((x * 2 ^ k : Nat) : Int) := by push_cast; rfl
  rw [e]
  generalize hA : x * 2 ^ k = A at *
  have h1 : (BitVec.ofInt 64 (A : Int)).toNat = A := by rw [BitVec.ofInt_natCast, BitVec.toNat_ofNat]; exact Nat.mod_eq_of_lt (by omega)
  have h2 : (BitVec.ofInt 64 (y : Int)).toNat = y := by rw [BitVec.ofInt_natCast, BitVec.toNat_ofNat]; exact Nat.mod_eq_of_lt (by omega)
  show IntKind.u64.wrap ((BitVec.ofInt 64 (A : Int) ||| BitVec.ofInt 64 (y : Int)).toNat : Int) = _
  have h3 : A ||| y = A + y := by
    rw [← hA, ← Nat.shiftLeft_eq]
    exact (Nat.shiftLeft_add_eq_or_of_lt h x).symm
  rw [BitVec.toNat_or, h1, h2, h3]
  exact (u64_in _ (by omega) (by omega)).trans (by push_cast; rfl)
theorem or2U (a b : Int) (ha : 0 ≤ a ∧ a ≤ 255) (hb : 0 ≤ b ∧ b ≤ 255) : bits .or .u64 (a * 65536) (b * 256) = a * 65536 + b * 256 := by
  obtain ⟨a, rfl⟩ := Int.eq_ofNat_of_zero_le ha.1
  obtain ⟨b, rfl⟩ := Int.eq_ofNat_of_zero_le hb.1
  have h1 := or_natU a (b * 256) 16 (by omega) (by omega)
  have e1 : ((a : Int) * 2 ^ 16) = (a : Int) * 65536 := by omega
  have e3 : ((b * 256 : Nat) : Int) = (b : Int) * 256 := by omega
  rw [e1, e3] at h1
  exact h1
theorem or3U (a b c : Int) (ha : 0 ≤ a ∧ a ≤ 255) (hb : 0 ≤ b ∧ b ≤ 255) (hc : 0 ≤ c ∧ c ≤ 255) : bits .or .u64 (a * 65536 + b * 256) c = a * 65536 + b * 256 + c := by
  obtain ⟨a, rfl⟩ := Int.eq_ofNat_of_zero_le ha.1
  obtain ⟨b, rfl⟩ := Int.eq_ofNat_of_zero_le hb.1
  obtain ⟨c, rfl⟩ := Int.eq_ofNat_of_zero_le hc.1
  have h2 := or_natU (a * 256 + b) c 8 (by omega) (by omega)
  have e2 : (((a * 256 + b : Nat) : Int) * 2 ^ 8) = (a : Int) * 65536 + (b : Int) * 256 := by omega
  rw [e2] at h2
  exact h2
theorem and63U (n : Int) (h0 : 0 ≤ n) (h1 : n < 9223372036854775808) : bits .and .u64 n 63 = n % 64 := by
  obtain ⟨n, rfl⟩ := Int.eq_ofNat_of_zero_le h0
  have e1 : (BitVec.ofInt 64 (n : Int)).toNat = n := by rw [BitVec.ofInt_natCast, BitVec.toNat_ofNat]; exact Nat.mod_eq_of_lt (by omega)
  have e2 : (BitVec.ofInt 64 (63 : Int)).toNat = 63 := by decide
  show IntKind.u64.wrap ((BitVec.ofInt 64 (n : Int) &&& BitVec.ofInt 64 (63 : Int)).toNat : Int) = _
  have h3 : n &&& 63 = n % 64 := Nat.and_two_pow_sub_one_eq_mod n 6
  rw [BitVec.toNat_and, e1, e2, h3]
  exact (u64_in _ (by omega) (by omega)).trans (by push_cast; rfl)
theorem rd_gb (s : ByteArray) (n j : Nat) : rd ((bytesOf s).drop n) (j : Int) = gb s n j := by
  have h1 : rd ((bytesOf s).drop n) (j : Int) = rd (bytesOf s) ((n + j : Nat) : Int) := by
    unfold rd
    rw [List.getD_eq_getElem?_getD, List.getD_eq_getElem?_getD, List.getElem?_drop]
    congr 2
  rw [h1, rd_bytesOf]
  unfold gb
  split
  · rfl
  · rename_i h
    simp [bt]
    intro h'
    omega
set_option maxHeartbeats 1000000 in
theorem b64_l0j (s : ByteArray) (hs : s.size ≤ 2147483647) : ∀ (d r : Nat), d = (s.size + 2) / 3 - r → r ≤ (s.size + 2) / 3 → ∀ F, d + 1 ≤ F →
    smjson_b64.l0 F ((bytesOf s).drop (3 * r)) (b64n s r) = some (b64 s) := by
  intro d
  induction d with
  | zero =>
    intro r hd hr F hF
    obtain ⟨F, rfl⟩ : ∃ F', F = F' + 1 := ⟨F - 1, by omega⟩
    have hl : ((bytesOf s).drop (3 * r)).length = 0 := by rw [List.length_drop, bytesOf_length]; omega
    rw [smjson_b64.l0]
    simp only [hl]
    rw [if_neg (by omega), if_neg (by omega), if_neg (by omega)]
    unfold b64
    rw [show (s.size + 2) / 3 = r from by omega]
  | succ d ih =>
    intro r hd hr F hF
    obtain ⟨F, rfl⟩ : ∃ F', F = F' + 1 := ⟨F - 1, by omega⟩
    have hl : ((bytesOf s).drop (3 * r)).length = s.size - 3 * r := by rw [List.length_drop, bytesOf_length]
    have e0 : rd ((bytesOf s).drop (3 * r)) 0 = gb s (3 * r) 0 := rd_gb s (3 * r) 0
    have e1 : rd ((bytesOf s).drop (3 * r)) 1 = gb s (3 * r) 1 := rd_gb s (3 * r) 1
    have e2 : rd ((bytesOf s).drop (3 * r)) 2 = gb s (3 * r) 2 := rd_gb s (3 * r) 2
    have g0 := gb_rng s (3 * r) 0
    have g1 := gb_rng s (3 * r) 1
    have g2 := gb_rng s (3 * r) 2
    have w0 := u64_in (gb s (3 * r) 0) (by omega) (by omega)
    have w1 := u64_in (gb s (3 * r) 1) (by omega) (by omega)
    have w2 := u64_in (gb s (3 * r) 2) (by omega) (by omega)
    have w3 := u64_in (gb s (3 * r) 0 * 65536) (by omega) (by omega)
    have w4 := u64_in (gb s (3 * r) 1 * 256) (by omega) (by omega)
    have o2 := or2U _ _ g0 g1
    have o3 := or3U _ _ _ g0 g1 g2
    have hbl := b64n_len s r
    rw [smjson_b64.l0]
    simp only [e0, e1, e2, w0, w1, w2, w3, w4, o2, o3, hl]
    by_cases h3 : 3 ≤ s.size - 3 * r
    · have a1 := and63U ((gb s (3 * r) 0 * 65536 + gb s (3 * r) 1 * 256 + gb s (3 * r) 2) / 262144) (by omega) (by omega)
      have a2 := and63U ((gb s (3 * r) 0 * 65536 + gb s (3 * r) 1 * 256 + gb s (3 * r) 2) / 4096) (by omega) (by omega)
      have a3 := and63U ((gb s (3 * r) 0 * 65536 + gb s (3 * r) 1 * 256 + gb s (3 * r) 2) / 64) (by omega) (by omega)
      have a4 := and63U (gb s (3 * r) 0 * 65536 + gb s (3 * r) 1 * 256 + gb s (3 * r) 2) (by omega) (by omega)
      simp only [a1, a2, a3, a4]
      rw [if_pos (by omega), if_pos (by omega), if_pos (by omega), if_pos (by omega), if_pos (by omega), if_pos (by omega), if_pos (by omega), if_pos (by omega), if_pos (by omega), if_pos (by omega), if_pos (by omega), if_pos (by omega)]
      simp only [Option.bind_some, List.length_cons, List.length_nil, List.drop_drop]
      rw [if_pos (by omega), if_pos (by omega)]
      have := ih (r + 1) (by omega) (by omega) F (by omega)
      rw [show 3 * (r + 1) = 3 * r + 3 from by omega, b64n] at this
      rw [← this]
      unfold grp
      rw [if_pos (by omega), if_pos (by omega)]
      rfl
    · rw [if_neg (by omega)]
      have hfin : b64 s = strOfNums (b64n s r ++ grp s (3 * r)) := by
        unfold b64
        rw [show (s.size + 2) / 3 = r + 1 from by omega]
        rfl
      by_cases h1 : s.size - 3 * r = 1
      · have z1 : gb s (3 * r) 1 = 0 := by unfold gb; rw [if_neg (by omega)]
        have z2 : gb s (3 * r) 2 = 0 := by unfold gb; rw [if_neg (by omega)]
        have a1 := and63U ((gb s (3 * r) 0 * 65536) / 262144) (by omega) (by omega)
        have a2 := and63U ((gb s (3 * r) 0 * 65536) / 4096) (by omega) (by omega)
        simp only [a1, a2]
        rw [if_pos (by omega), if_pos (by omega), if_pos (by omega), if_pos (by omega), if_pos (by omega), if_pos (by omega)]
        simp only [Option.bind_some, List.length_cons, List.length_nil]
        rw [if_pos (by omega), hfin]
        unfold grp
        rw [if_neg (by omega), if_neg (by omega)]
        unfold gx
        rw [z1, z2]
        simp only [Int.zero_mul, Int.add_zero]
        rfl
      · have z2 : gb s (3 * r) 2 = 0 := by unfold gb; rw [if_neg (by omega)]
        have a1 := and63U ((gb s (3 * r) 0 * 65536 + gb s (3 * r) 1 * 256) / 262144) (by omega) (by omega)
        have a2 := and63U ((gb s (3 * r) 0 * 65536 + gb s (3 * r) 1 * 256) / 4096) (by omega) (by omega)
        have a3 := and63U ((gb s (3 * r) 0 * 65536 + gb s (3 * r) 1 * 256) / 64) (by omega) (by omega)
        simp only [a1, a2, a3]
        rw [if_neg (by omega), if_pos (by omega), if_pos (by omega), if_pos (by omega), if_pos (by omega), if_pos (by omega), if_pos (by omega), if_pos (by omega), if_pos (by omega), if_pos (by omega)]
        simp only [Option.bind_some, List.length_cons, List.length_nil]
        rw [if_pos (by omega), hfin]
        unfold grp
        rw [if_pos (by omega), if_neg (by omega)]
        unfold gx
        rw [z2]
        simp only [Int.add_zero]
        rfl
theorem b64_eqj (s : ByteArray) (hs : s.size ≤ 2147483647) : smjson_b64.f ((s.size + 2) / 3 + 1) (bytesOf s) = some (b64 s) := by
  have := b64_l0j s hs ((s.size + 2) / 3) 0 (by omega) (by omega) _ (Nat.le_refl _)
  exact this
/-- A text's bytes, as a slice, are read. -/
theorem V_of_BAt {w : World} {g : Nat} {zs : List Int} {s : ByteArray} (h : BAt w g zs) (ht : zs.take s.size = bytesOf s) (hz : zs.length ≤ 9223372036854775807) :
    Kd.V (Kd.int .u8) 5 w w.heap.size (fun k => k = g) (.slice (some ⟨g, 0, none⟩) (bytesOf s).length zs.length) (bytesOf s) := by
  have hle : s.size ≤ zs.length := by
    have := congrArg List.length ht
    simp [bytesOf_length] at this; omega
  refine Kd.V_mk (by rw [bytesOf_length]; exact hle) (fun W' hW => ?_)
  have hg : W'.heap[g]? = w.heap[g]? := hW g rfl h.lt
  have h' : BAt W' g zs := by
    obtain ⟨fr, h1, h2⟩ := h
    exact ⟨fr, hg.trans h1, h2⟩
  refine ⟨rfl, by rw [bytesOf_length]; omega, fun _ => ⟨⟨g, 0, none⟩, rfl, fun j p hj => ?_⟩⟩
  have hj2 : j < s.size := by
    have := (List.getElem?_eq_some_iff.1 hj).1
    rwa [bytesOf_length] at this
  refine ⟨[.int .u8 p], rfl, rfl, fun i u hi => ?_⟩
  match i, hi with
  | 0, hi =>
    obtain rfl := Option.some.inj hi
    rw [plain_add, Nat.zero_add]
    show W'.cell? ⟨g, j * 1 + 0, none⟩ = _
    rw [Nat.mul_one, Nat.add_zero, h'.cell j (by omega)]
    congr 2
    rw [← ht, List.getElem?_take, if_pos hj2] at hj
    rw [List.getD_eq_getElem?_getD, hj]
    rfl
end H
end Go.Proofs.YtkihaebaccdjdaaGreatDoor
set_option linter.unusedVariables false
set_option linter.unusedSimpArgs false
namespace Go.Proofs.YtkihaebaccdjdaaGreatDoor
open Go.RowKit Go.Proofs.YtkihaebaccdjdaaGreatDoorW.PrintWords Go.Proofs.YtkihaebaccdjdaaGreatDoorW.PrintLast Go.Proofs.YtkihaebaccdjdaaGreatDoorW.PrintMore
open PX
namespace H
/-! ### counter.take -/
theorem w64i (x : Int) (h0 : -9223372036854775808 ≤ x) (h1 : x < 9223372036854775808) : IntKind.i64.wrap x = x := by
  simp [IntKind.wrap, IntKind.bits, IntKind.signed]
  omega
theorem sum_take {α : Type} (f : α → Nat) (d : α) : ∀ (l : List α) (i : Nat), i < l.length → ((l.take (i + 1)).map f).sum = ((l.take i).map f).sum + f (l.getD i d)
  | [], i, h => absurd h (Nat.not_lt_zero i)
  | a :: l, 0, h => by simp
  | a :: l, i + 1, h => by
    have := sum_take f d l i (by simpa using h)
    simp only [List.take_succ_cons, List.map_cons, List.sum_cons, List.getD_cons_succ] at this ⊢
    omega
theorem sum_le {α : Type} (f : α → Nat) (m : Nat) : ∀ (l : List α), (∀ x ∈ l, f x ≤ m) → (l.map f).sum ≤ l.length * m
  | [], _ => by simp
  | a :: l, h => by
    have h1 := sum_le f m l (fun x hx => h x (List.mem_cons_of_mem _ hx))
    have h2 := h a List.mem_cons_self
    simp only [List.map_cons, List.sum_cons, List.length_cons, Nat.succ_mul]
    omega
theorem getD_mem {α : Type} {l : List α} {i : Nat} (d : α) (h : i < l.length) : l.getD i d ∈ l := by
  rw [List.getD_eq_getElem?_getD, List.getElem?_eq_getElem h]; exact List.getElem_mem _
theorem bel_fr {S : Nat → Prop} {w0 w w1 : World} (hb : Below w0.heap.size w0 w) (hF : Fr S w w1) (hS : ∀ k, S k → w0.heap.size ≤ k) : Below w0.heap.size w0 w1 :=
  ⟨hF.os.trans hb.os, hF.tape.trans hb.tape, hF.output.trans hb.output, Nat.le_trans hb.size hF.size, fun k hk => (hF.block k (Nat.lt_of_lt_of_le hk hb.size) (fun h => by have := hS k h; omega)).trans (hb.block k hk)⟩
def s3 (x : S28) (i : Nat) : Nat := ((x.f3.take i).map ByteArray.size).sum
def s9 (x : S28) (i : Nat) : Nat := ((x.f9.take i).map fun a => a.f0.size + a.f1.size).sum
theorem s3_le {x : S28} {i : Nat} (hl : x.f3.length ≤ 200) (zn : ∀ s ∈ x.f3, s.size ≤ 140737488355328) : s3 x i ≤ 28147497671065600 := by
  have h3 := sum_le ByteArray.size 140737488355328 (x.f3.take i) (fun y hy => zn y (List.mem_of_mem_take hy))
  have h4 : (x.f3.take i).length ≤ 200 := by simp; omega
  have h5 := Nat.mul_le_mul_right 140737488355328 h4
  unfold s3
  omega
theorem s9_le {x : S28} {i : Nat} (hl : x.f9.length ≤ 20) (za : ∀ a ∈ x.f9, a.f0.size ≤ 140737488355328 ∧ a.f1.size ≤ 140737488355328) : s9 x i ≤ 5629499534213120 := by
  have h3 := sum_le (fun a : S45 => a.f0.size + a.f1.size) 281474976710656 (x.f9.take i) (fun y hy => by have := za y (List.mem_of_mem_take hy); omega)
  have h4 : (x.f9.take i).length ≤ 20 := by simp; omega
  have h5 := Nat.mul_le_mul_right 281474976710656 h4
  unfold s9
  omega
set_option maxHeartbeats 8000000 in
set_option maxRecDepth 100000 in
theorem take_call {g : Nat} {x : S28} {p : NA} {w0 w : World} {c0 c1 : Int} (hN : NH w0 x p) (hb : Below w0.heap.size w0 w) (hg0 : w0.heap.size ≤ g) (hg : w.heap[g]? = some (.cells #[.int .i64 c0, .int .i64 c1] 50 (0, 0))) (hc0 : 0 ≤ c0 ∧ c0 ≤ 2000) (hc1 : 0 ≤ c1 ∧ c1 ≤ 20000) (hs : Sz 1 x) :
    Calls Tryz.prog 54 #[.pointer (some ⟨g, 0, none⟩), NV x p] w fun e w' => ∃ (b : Bool) (c : Int), e = .returned (.bool b) ∧ w'.heap[g]? = some (.cells #[.int .i64 (c0 + 1), .int .i64 c] 50 (0, 0)) ∧ Fr (fun k => k = g) w w' ∧
      (b = true → c0 + 1 ≤ 2000 ∧ c = c1 + bytN x ∧ c ≤ 20000 ∧ x.f4.length ≤ 200 ∧ x.f3.length ≤ 200 ∧ x.f5.length ≤ 200 ∧ x.f9.length ≤ 20) := by
  suffices h : ∀ Q : Ending → World → Prop, (∀ (b : Bool) (c : Int) (w' : World), w'.heap[g]? = some (.cells #[.int .i64 (c0 + 1), .int .i64 c] 50 (0, 0)) → Fr (fun k => k = g) w w' → (b = true → c0 + 1 ≤ 2000 ∧ c = c1 + bytN x ∧ c ≤ 20000 ∧ x.f4.length ≤ 200 ∧ x.f3.length ≤ 200 ∧ x.f5.length ≤ 200 ∧ x.f9.length ≤ 20) → Q (.returned (.bool b)) w') → Calls Tryz.prog 54 #[.pointer (some ⟨g, 0, none⟩), NV x p] w Q from
    h _ (fun b c w' h1 h2 h3 => ⟨b, c, rfl, h1, h2, h3⟩)
  intro Q hQ
  replace hQ := Aside0.mk hQ
  obtain ⟨A3, c3, A4, c4, A5, c5, A9, c9⟩ := p
  obtain ⟨⟨z1, z6, z7, z8, _, zn, za⟩, _⟩ := hs
  have e0 : IntKind.i64.wrap (c0 + 1) = c0 + 1 := w64i _ (by omega) (by omega)
  have e1 : IntKind.i64.wrap ((x.f1.size : Int) + x.f6.size) = x.f1.size + x.f6.size := w64i _ (by omega) (by omega)
  have e2 : IntKind.i64.wrap ((x.f1.size : Int) + x.f6.size + x.f7.size) = x.f1.size + x.f6.size + x.f7.size := w64i _ (by omega) (by omega)
  have e3 : IntKind.i64.wrap ((x.f1.size : Int) + x.f6.size + x.f7.size + x.f8.size) = x.f1.size + x.f6.size + x.f7.size + x.f8.size := w64i _ (by omega) (by omega)
  have e4 : IntKind.i64.wrap (c1 + ((x.f1.size : Int) + x.f6.size + x.f7.size + x.f8.size)) = c1 + ((x.f1.size : Int) + x.f6.size + x.f7.size + x.f8.size) := w64i _ (by omega) (by omega)
  have hlt := lt_of hg
  replace hN := Aside0.mk hN; replace hb := Aside0.mk hb; replace hc0 := Aside0.mk hc0; replace hc1 := Aside0.mk hc1; replace zn := Aside0.mk zn; replace za := Aside0.mk za
  unfold NV
  dsimp only
  have d0 := cell_at hg 0; have d1 := cell_at hg 1
  simp at d0 d1
  have f0 := free_of hg 0; have f1 := free_of hg 1
  have ng : w.heap.size ≠ g := by omega
  have gn : g ≠ w.heap.size := by omega
  go_enter Tryz.func54, Tryz.ntmps54
  go_wp2_with fail
  have kg1 : (w.setCell ⟨g, 0, none⟩ (.int .i64 (c0 + 1))).heap[g]? = some (.cells #[.int .i64 (c0 + 1), .int .i64 c1] 50 (0, 0)) := by rw [heap_set hg]; rfl
  have kg2 := heap_old kg1 (.cells #[.int .i64 x.f0, .string x.f1, .int .i64 x.f2, .slice A3 x.f3.length c3, .slice A4 x.f4.length c4, .slice A5 x.f5.length c5, .string x.f6, .string x.f7, .string x.f8, .slice A9 x.f9.length c9] 28)
  have kn2 := heap_new (w.setCell ⟨g, 0, none⟩ (.int .i64 (c0 + 1))) (.cells #[.int .i64 x.f0, .string x.f1, .int .i64 x.f2, .slice A3 x.f3.length c3, .slice A4 x.f4.length c4, .slice A5 x.f5.length c5, .string x.f6, .string x.f7, .string x.f8, .slice A9 x.f9.length c9] 28)
  have hz : (w.setCell ⟨g, 0, none⟩ (.int .i64 (c0 + 1))).heap.size = w.heap.size := by simp [World.setCell]
  rw [hz] at kn2
  have hF := ((Fr.refl (fun k => k = g) w).setCell (p := ⟨g, 0, none⟩) (.inl rfl) (.int .i64 (c0 + 1))).trans (Fr.of_below (S := fun _ => False) (below_alloc (Below.refl _ (w.setCell ⟨g, 0, none⟩ (.int .i64 (c0 + 1)))) (.cells #[.int .i64 x.f0, .string x.f1, .int .i64 x.f2, .slice A3 x.f3.length c3, .slice A4 x.f4.length c4, .slice A5 x.f5.length c5, .string x.f6, .string x.f7, .string x.f8, .slice A9 x.f9.length c9] 28))) (fun _ _ h => h.elim)
  generalize (w.setCell ⟨g, 0, none⟩ (.int .i64 (c0 + 1))).alloc (.cells #[.int .i64 x.f0, .string x.f1, .int .i64 x.f2, .slice A3 x.f3.length c3, .slice A4 x.f4.length c4, .slice A5 x.f5.length c5, .string x.f6, .string x.f7, .string x.f8, .slice A9 x.f9.length c9] 28) = w2 at *
  clear d0 d1 f0 f1 kg1 hz
  obtain ⟨nb, hnb⟩ : ∃ nb, w.heap.size = nb := ⟨_, rfl⟩
  rw [hnb] at kn2 ng gn ⊢
  have n1 := cell_at kn2 1; have n3 := cell_at kn2 3; have n4 := cell_at kn2 4; have n5 := cell_at kn2 5; have n6 := cell_at kn2 6; have n7 := cell_at kn2 7; have n8 := cell_at kn2 8; have n9 := cell_at kn2 9
  simp at n1 n3 n4 n5 n6 n7 n8 n9
  have d0 := cell_at kg2 0; have d1 := cell_at kg2 1
  simp at d0 d1
  have f1 := free_of kg2 1
  go_region
  have kg3 : (w2.setCell ⟨g, 1, none⟩ (.int .i64 (c1 + ((x.f1.size : Int) + x.f6.size + x.f7.size + x.f8.size)))).drew.heap[g]? = some (.cells #[.int .i64 (c0 + 1), .int .i64 (c1 + ((x.f1.size : Int) + x.f6.size + x.f7.size + x.f8.size))] 50 (0, 0)) := by show (w2.setCell ⟨g, 1, none⟩ (.int .i64 (c1 + ((x.f1.size : Int) + x.f6.size + x.f7.size + x.f8.size)))).heap[g]? = _; rw [heap_set kg2]; rfl
  have kn3 : (w2.setCell ⟨g, 1, none⟩ (.int .i64 (c1 + ((x.f1.size : Int) + x.f6.size + x.f7.size + x.f8.size)))).drew.heap[nb]? = _ := (Below.heap_setCell w2 ⟨g, 1, none⟩ (.int .i64 (c1 + ((x.f1.size : Int) + x.f6.size + x.f7.size + x.f8.size))) nb ng).trans kn2
  have hF3 := Aside0.mk (hF.setCell (p := ⟨g, 1, none⟩) (.inl rfl) (.int .i64 (c1 + ((x.f1.size : Int) + x.f6.size + x.f7.size + x.f8.size)))).drew
  generalize (w2.setCell ⟨g, 1, none⟩ (.int .i64 (c1 + ((x.f1.size : Int) + x.f6.size + x.f7.size + x.f8.size)))).drew = w3 at *
  clear hF kg2 kn2 n1 n3 n4 n5 n6 n7 n8 n9 d0 d1 f1 e0 e1 e2 e3 e4
  have n3 := cell_at kn3 3
  simp at n3
  clear hg
  replace kg3 := Aside0.mk kg3; replace kn3 := Aside0.mk kn3
  go_wp2_with fail
  go_loopg [41] x.f3.length (fun q' v41 w' => ∃ (i : Nat) (v : Int), v41 = .int .i64 (i : Int) ∧ q' + i = x.f3.length ∧ Aside0 (x.f3.length ≤ 200 → v = c1 + ((x.f1.size : Int) + x.f6.size + x.f7.size + x.f8.size) + (s3 x i : Int)) ∧ Aside0 (w'.heap[g]? = some (.cells #[.int .i64 (c0 + 1), .int .i64 v] 50 (0, 0))) ∧ Aside0 (w'.heap[nb]? = some (.cells #[.int .i64 x.f0, .string x.f1, .int .i64 x.f2, .slice A3 x.f3.length c3, .slice A4 x.f4.length c4, .slice A5 x.f5.length c5, .string x.f6, .string x.f7, .string x.f8, .slice A9 x.f9.length c9] 28 (0, 0))) ∧ Aside0 (Fr (fun k => k = g) w w'))
  case atStart => exact ⟨0, _, rfl, by omega, .mk (fun _ => by simp [s3]), kg3, kn3, hF3⟩
  case round =>
    clear n3 kg3 kn3 hF3
    obtain ⟨i, v, rfl, hq, hv, kg4, kn4, hF4⟩ := hrel
    have hmx : Aside0 (x.f3.length ≤ 9223372036854775807 ∧ x.f9.length ≤ 9223372036854775807) := .mk ⟨Kd.C_max hN.out.h3, Kd.C_max hN.out.h9⟩
    have hi0 : ((0 : Int) ≤ (i : Int)) = True := eq_true (by omega)
    by_cases hi : i < x.f3.length
    · have hi1 : ((i : Int) < (x.f3.length : Int)) = True := eq_true (by omega)
      have e6 : IntKind.i64.wrap ((i : Int) + 1) = (i : Int) + 1 := w64i _ (by omega) (by have := hmx.out; omega)
      obtain ⟨ad, hA, hc⟩ := hN.out.name i hi
      dsimp only at hA
      subst hA
      replace hc := cell_below (bel_fr hb.out hF4.out (fun k hk => by omega)) hc
      have hv2 : Aside0 (x.f3.length ≤ 200 → IntKind.i64.wrap (v + ((x.f3.getD i ByteArray.empty).size : Int)) = c1 + ((x.f1.size : Int) + x.f6.size + x.f7.size + x.f8.size) + (s3 x (i + 1) : Int)) := .mk (fun hl => by
        have h1 := hv.out hl
        have h2 := sum_take ByteArray.size ByteArray.empty x.f3 i hi
        have h3 := s3_le (i := i + 1) hl zn.out
        have := hc0.out; have := hc1.out
        unfold s3 at h1 h3 ⊢
        rw [w64i _ (by omega) (by omega)]
        omega)
      obtain ⟨sn, hsn⟩ : ∃ sn, x.f3.getD i ByteArray.empty = sn := ⟨_, rfl⟩
      rw [hsn] at hc hv2
      clear hsn
      obtain ⟨v2, e7⟩ : ∃ v2, IntKind.i64.wrap (v + (sn.size : Int)) = v2 := ⟨_, rfl⟩
      rw [e7] at hv2
      have d0 := cell_at kg4.out 0; have d1 := cell_at kg4.out 1
      simp at d0 d1
      have f1 := free_of kg4.out 1
      go_wp2_with fail
      have kg5 : Aside0 ((wr.setCell ⟨g, 1, none⟩ (.int .i64 v2)).heap[g]? = some (.cells #[.int .i64 (c0 + 1), .int .i64 v2] 50 (0, 0))) := .mk (by rw [heap_set kg4.out]; rfl)
      have kn5 := Aside0.mk ((Below.heap_setCell wr ⟨g, 1, none⟩ (.int .i64 v2) nb ng).trans kn4.out)
      have hF5 := Aside0.mk (hF4.out.setCell (p := ⟨g, 1, none⟩) (.inl rfl) (.int .i64 v2))
      go_roundg (x.f3.length - (i + 1))
      case rel => exact ⟨i + 1, v2, by push_cast; rfl, by omega, hv2, kg5, kn5, hF5⟩
      case measure => omega
    · have hi1 : ((i : Int) < (x.f3.length : Int)) = False := eq_false (by omega)
      obtain rfl : i = x.f3.length := by omega
      have n9 := cell_at kn4.out 9
      simp at n9
      go_wp2_with fail
      go_loopg [58] x.f9.length (fun q' v58 w' => ∃ (j : Nat) (v : Int), v58 = .int .i64 (j : Int) ∧ q' + j = x.f9.length ∧ Aside0 (x.f3.length ≤ 200 → x.f9.length ≤ 20 → v = c1 + ((x.f1.size : Int) + x.f6.size + x.f7.size + x.f8.size) + (s3 x x.f3.length : Int) + (s9 x j : Int)) ∧ Aside0 (w'.heap[g]? = some (.cells #[.int .i64 (c0 + 1), .int .i64 v] 50 (0, 0))) ∧ Aside0 (w'.heap[nb]? = some (.cells #[.int .i64 x.f0, .string x.f1, .int .i64 x.f2, .slice A3 x.f3.length c3, .slice A4 x.f4.length c4, .slice A5 x.f5.length c5, .string x.f6, .string x.f7, .string x.f8, .slice A9 x.f9.length c9] 28 (0, 0))) ∧ Aside0 (Fr (fun k => k = g) w w'))
      case atStart => exact ⟨0, v, rfl, by omega, .mk (fun h _ => by rw [hv.out h]; simp [s9]), kg4, kn4, hF4⟩
      case round =>
        clear n9 kg4 kn4 hF4 hv v
        obtain ⟨j, v, rfl, hq2, hv, kg4, kn4, hF4⟩ := hrel
        have hj0 : ((0 : Int) ≤ (j : Int)) = True := eq_true (by omega)
        by_cases hj : j < x.f9.length
        · have hj1 : ((j : Int) < (x.f9.length : Int)) = True := eq_true (by omega)
          have e6 : IntKind.i64.wrap ((j : Int) + 1) = (j : Int) + 1 := w64i _ (by omega) (by have := hmx.out; omega)
          obtain ⟨ad, hA, y0, y1, y2⟩ := hN.out.attr j hj
          dsimp only at hA
          subst hA
          have hB4 := bel_fr hb.out hF4.out (fun k hk => by omega)
          replace y0 := cell_below hB4 y0; replace y1 := cell_below hB4 y1; replace y2 := cell_below hB4 y2
          clear hB4
          have zj := za.out _ (getD_mem z45 hj)
          have hv2 : Aside0 (x.f3.length ≤ 200 → x.f9.length ≤ 20 → IntKind.i64.wrap (v + (((x.f9.getD j z45).f0.size : Int) + (x.f9.getD j z45).f1.size)) = c1 + ((x.f1.size : Int) + x.f6.size + x.f7.size + x.f8.size) + (s3 x x.f3.length : Int) + (s9 x (j + 1) : Int)) := .mk (fun hl hl9 => by
            have h1 := hv.out hl hl9
            have h2 := sum_take (fun a : S45 => a.f0.size + a.f1.size) z45 x.f9 j hj
            have h3 := s3_le (i := x.f3.length) hl zn.out
            have h9 := s9_le (i := j + 1) hl9 za.out
            have := hc0.out; have := hc1.out
            unfold s9 at h1 h9 ⊢
            rw [w64i _ (by omega) (by omega)]
            omega)
          obtain ⟨aj, haj⟩ : ∃ aj, x.f9.getD j z45 = aj := ⟨_, rfl⟩
          rw [haj] at y0 y1 y2 hv2 zj
          clear haj
          have e8 : IntKind.i64.wrap ((aj.f0.size : Int) + aj.f1.size) = aj.f0.size + aj.f1.size := w64i _ (by omega) (by omega)
          obtain ⟨v2, e7⟩ : ∃ v2, IntKind.i64.wrap (v + ((aj.f0.size : Int) + aj.f1.size)) = v2 := ⟨_, rfl⟩
          rw [e7] at hv2
          replace zj := Aside0.mk zj
          have hlg := lt_of kg4.out
          have hg1 : wr.heap.size ≠ g := by omega
          have hg2 : g ≠ wr.heap.size := by omega
          have d0 := cell_at kg4.out 0; have d1 := cell_at kg4.out 1
          simp at d0 d1
          have f1 := free_of kg4.out 1
          go_wp2_with fail
          have kg5 := heap_old kg4.out (.cells #[.string aj.f0, .string aj.f1, .bool aj.f2] 45)
          have kn5 := heap_old kn4.out (.cells #[.string aj.f0, .string aj.f1, .bool aj.f2] 45)
          have ka5 := heap_new wr (.cells #[.string aj.f0, .string aj.f1, .bool aj.f2] 45)
          have hF5 := Aside0.mk (hF4.out.alloc (.cells #[.string aj.f0, .string aj.f1, .bool aj.f2] 45))
          obtain ⟨na, hna⟩ : ∃ na, wr.heap.size = na := ⟨_, rfl⟩
          rw [hna] at ka5 hg1 hg2 ⊢
          generalize wr.alloc (.cells #[.string aj.f0, .string aj.f1, .bool aj.f2] 45) = w5 at *
          clear d0 d1 f1 y0 y1 y2
          have d0 := cell_at kg5 0; have d1 := cell_at kg5 1
          simp at d0 d1
          have f1 := free_of kg5 1
          have y0 := cell_at ka5 0; have y1 := cell_at ka5 1
          simp at y0 y1
          go_region
          have kg6 : (w5.setCell ⟨g, 1, none⟩ (.int .i64 v2)).drew.heap[g]? = some (.cells #[.int .i64 (c0 + 1), .int .i64 v2] 50 (0, 0)) := by show (w5.setCell ⟨g, 1, none⟩ (.int .i64 v2)).heap[g]? = _; rw [heap_set kg5]; rfl
          have kn6 := Aside0.mk ((Below.heap_setCell w5 ⟨g, 1, none⟩ (.int .i64 v2) nb ng).trans kn5)
          have hF6 := Aside0.mk (hF5.out.setCell (p := ⟨g, 1, none⟩) (.inl rfl) (.int .i64 v2)).drew
          replace kg6 := Aside0.mk kg6
          clear d0 d1 f1 y0 y1 kg5 kn5 ka5 hF5
          go_wp2_with fail
          go_roundg (x.f9.length - (j + 1))
          case rel => exact ⟨j + 1, v2, by push_cast; rfl, by omega, hv2, kg6, kn6, hF6⟩
          case measure => omega
        · have hj1 : ((j : Int) < (x.f9.length : Int)) = False := eq_false (by omega)
          obtain rfl : j = x.f9.length := by omega
          have d0 := cell_at kg4.out 0; have d1 := cell_at kg4.out 1
          simp at d0 d1
          have n3 := cell_at kn4.out 3; have n4 := cell_at kn4.out 4; have n5 := cell_at kn4.out 5; have n9 := cell_at kn4.out 9
          simp at n3 n4 n5 n9
          go_wp2
          all_goals
            (try go_ret)
            refine hQ.out _ _ _ kg4.out hF4.out ?_
            first | (intro hq; cases hq; done) | (intro h9; replace h9 : decide ((x.f9.length : Int) ≤ 20) = true := h9; replace h9 := of_decide_eq_true h9; have h1 := hv.out (by omega) (by omega); unfold s3 s9 at h1; rw [List.take_length, List.take_length] at h1; unfold bytN; refine ⟨by omega, by push_cast; omega, by omega, by omega, by omega, by omega, by omega⟩)
end H
end Go.Proofs.YtkihaebaccdjdaaGreatDoor
