import Derived.Test.YtclmjmfcggkpaaaGreatDoorU19
import Derived.Test.YtclmjmfcggkpaaaGreatDoorU22
import Derived.Test.YtclmjmfcggkpaaaGreatDoorU23
set_option linter.unusedVariables false
set_option linter.unusedSimpArgs false
namespace Go.Proofs.YtclmjmfcggkpaaaGreatDoor
open Go.RowKit Go.Proofs.YtclmjmfcggkpaaaGreatDoorW.PrintWords Go.Proofs.YtclmjmfcggkpaaaGreatDoorW.PrintLast Go.Proofs.YtclmjmfcggkpaaaGreatDoorW.PrintMore
open PX
namespace HH
open H
/-! ### smhttp.b64 -/
theorem u64_in (n : Int) (h0 : 0 ≤ n) (h1 : n < 18446744073709551616) : IntKind.u64.wrap n = n := by
 simp [IntKind.wrap, IntKind.bits, IntKind.signed]
 omega
theorem or_natU (x y k : Nat) (h : y < 2 ^ k) (hx : x * 2 ^ k + y < 9223372036854775808) : bits .or .u64 ((x : Int) * 2 ^ k) (y : Int) = (x : Int) * 2 ^ k + y := by
 have e : (x : Int) * 2 ^ k = ((x * 2 ^ k : Nat) : Int) := by push_cast; rfl
 rw [e]
 generalize hA : x * 2 ^ k = A at *
 have h1 : (BitVec.ofInt 64 (A : Int)).toNat = A := by rw [BitVec.ofInt_natCast, BitVec.toNat_ofNat]; exact Nat.mod_eq_of_lt (by omega)
 have h2 : (BitVec.ofInt 64 (y : Int)).toNat = y := by rw [BitVec.ofInt_natCast, BitVec.toNat_ofNat]; exact Nat.mod_eq_of_lt (by omega)
 show IntKind.u64.wrap ((BitVec.ofInt 64 (A : Int) ||| BitVec.ofInt 64 (y : Int)).toNat : Int) = _
 have h3 : A ||| y = A + y := by
  rw [← hA, ← Nat.shiftLeft_eq]
  exact (Nat.shiftLeft_add_eq_or_of_lt h x).symm
 rw [BitVec.toNat_or, h1, h2, h3]
 exact (u64_in _ (by omega) (by omega)).trans (by push_cast; rfl)
theorem or2U (a b : Int) (ha : 0 ≤ a ∧ a ≤ 255) (hb : 0 ≤ b ∧ b ≤ 255) : bits .or .u64 (a * 65536) (b * 256) = a * 65536 + b * 256 := by
 obtain ⟨a, rfl⟩ := Int.eq_ofNat_of_zero_le ha.1
 obtain ⟨b, rfl⟩ := Int.eq_ofNat_of_zero_le hb.1
 have h1 := or_natU a (b * 256) 16 (by omega) (by omega)
 have e1 : ((a : Int) * 2 ^ 16) = (a : Int) * 65536 := by omega
 have e3 : ((b * 256 : Nat) : Int) = (b : Int) * 256 := by omega
 rw [e1, e3] at h1
 exact h1
theorem or3U (a b c : Int) (ha : 0 ≤ a ∧ a ≤ 255) (hb : 0 ≤ b ∧ b ≤ 255) (hc : 0 ≤ c ∧ c ≤ 255) : bits .or .u64 (a * 65536 + b * 256) c = a * 65536 + b * 256 + c := by
 obtain ⟨a, rfl⟩ := Int.eq_ofNat_of_zero_le ha.1
 obtain ⟨b, rfl⟩ := Int.eq_ofNat_of_zero_le hb.1
 obtain ⟨c, rfl⟩ := Int.eq_ofNat_of_zero_le hc.1
 have h2 := or_natU (a * 256 + b) c 8 (by omega) (by omega)
 have e2 : (((a * 256 + b : Nat) : Int) * 2 ^ 8) = (a : Int) * 65536 + (b : Int) * 256 := by omega
 rw [e2] at h2
 exact h2
theorem and63U (n : Int) (h0 : 0 ≤ n) (h1 : n < 9223372036854775808) : bits .and .u64 n 63 = n % 64 := by
 obtain ⟨n, rfl⟩ := Int.eq_ofNat_of_zero_le h0
 have e1 : (BitVec.ofInt 64 (n : Int)).toNat = n := by rw [BitVec.ofInt_natCast, BitVec.toNat_ofNat]; exact Nat.mod_eq_of_lt (by omega)
 have e2 : (BitVec.ofInt 64 (63 : Int)).toNat = 63 := by decide
 show IntKind.u64.wrap ((BitVec.ofInt 64 (n : Int) &&& BitVec.ofInt 64 (63 : Int)).toNat : Int) = _
 have h3 : n &&& 63 = n % 64 := Nat.and_two_pow_sub_one_eq_mod n 6
 rw [BitVec.toNat_and, e1, e2, h3]
 exact (u64_in _ (by omega) (by omega)).trans (by push_cast; rfl)
theorem rd_gb (s : ByteArray) (n j : Nat) : rd ((bytesOf s).drop n) (j : Int) = gb s n j := by
 have h1 : rd ((bytesOf s).drop n) (j : Int) = rd (bytesOf s) ((n + j : Nat) : Int) := by
  unfold rd
  rw [List.getD_eq_getElem?_getD, List.getD_eq_getElem?_getD, List.getElem?_drop]
  congr 2
 rw [h1, rd_bytesOf]
 unfold gb
 split
 ·rfl
 ·rename_i h
  simp [bt]
  intro h'
  omega
set_option maxHeartbeats 1000000 in
theorem b64_l0 (s : ByteArray) (hs : s.size ≤ 2147483647) : ∀ (d r : Nat), d = (s.size + 2) / 3 - r → r ≤ (s.size + 2) / 3 → ∀ F, d + 1 ≤ F →
 smhttp_b64.l0 F ((bytesOf s).drop (3 * r)) (b64n s r) = some (b64 s) := by
 intro d
 induction d with
 | zero =>
   intro r hd hr F hF
   obtain ⟨F, rfl⟩ : ∃ F', F = F' + 1 := ⟨F - 1, by omega⟩
   have hl : ((bytesOf s).drop (3 * r)).length = 0 := by rw [List.length_drop, bytesOf_length]; omega
   rw [smhttp_b64.l0]
   simp only [hl]
   rw [if_neg (by omega), if_neg (by omega), if_neg (by omega)]
   unfold b64
   rw [show (s.size + 2) / 3 = r from by omega]
 | succ d ih =>
   intro r hd hr F hF
   obtain ⟨F, rfl⟩ : ∃ F', F = F' + 1 := ⟨F - 1, by omega⟩
   have hl : ((bytesOf s).drop (3 * r)).length = s.size - 3 * r := by rw [List.length_drop, bytesOf_length]
   have e0 : rd ((bytesOf s).drop (3 * r)) 0 = gb s (3 * r) 0 := rd_gb s (3 * r) 0
   have e1 : rd ((bytesOf s).drop (3 * r)) 1 = gb s (3 * r) 1 := rd_gb s (3 * r) 1
   have e2 : rd ((bytesOf s).drop (3 * r)) 2 = gb s (3 * r) 2 := rd_gb s (3 * r) 2
   have g0 := gb_rng s (3 * r) 0
   have g1 := gb_rng s (3 * r) 1
   have g2 := gb_rng s (3 * r) 2
   have w0 := u64_in (gb s (3 * r) 0) (by omega) (by omega)
   have w1 := u64_in (gb s (3 * r) 1) (by omega) (by omega)
   have w2 := u64_in (gb s (3 * r) 2) (by omega) (by omega)
   have w3 := u64_in (gb s (3 * r) 0 * 65536) (by omega) (by omega)
   have w4 := u64_in (gb s (3 * r) 1 * 256) (by omega) (by omega)
   have o2 := or2U _ _ g0 g1
   have o3 := or3U _ _ _ g0 g1 g2
   have hbl := b64n_len s r
   rw [smhttp_b64.l0]
   simp only [e0, e1, e2, w0, w1, w2, w3, w4, o2, o3, hl]
   by_cases h3 : 3 ≤ s.size - 3 * r
   ·have a1 := and63U ((gb s (3 * r) 0 * 65536 + gb s (3 * r) 1 * 256 + gb s (3 * r) 2) / 262144) (by omega) (by omega)
    have a2 := and63U ((gb s (3 * r) 0 * 65536 + gb s (3 * r) 1 * 256 + gb s (3 * r) 2) / 4096) (by omega) (by omega)
    have a3 := and63U ((gb s (3 * r) 0 * 65536 + gb s (3 * r) 1 * 256 + gb s (3 * r) 2) / 64) (by omega) (by omega)
    have a4 := and63U (gb s (3 * r) 0 * 65536 + gb s (3 * r) 1 * 256 + gb s (3 * r) 2) (by omega) (by omega)
    simp only [a1, a2, a3, a4]
    rw [if_pos (by omega), if_pos (by omega), if_pos (by omega), if_pos (by omega), if_pos (by omega), if_pos (by omega), if_pos (by omega), if_pos (by omega), if_pos (by omega), if_pos (by omega), if_pos (by omega), if_pos (by omega)]
    simp only [Option.bind_some, List.length_cons, List.length_nil, List.drop_drop]
    rw [if_pos (by omega), if_pos (by omega)]
    have := ih (r + 1) (by omega) (by omega) F (by omega)
    rw [show 3 * (r + 1) = 3 * r + 3 from by omega, b64n] at this
    rw [← this]
    unfold grp
    rw [if_pos (by omega), if_pos (by omega)]
    rfl
   ·rw [if_neg (by omega)]
    have hfin : b64 s = strOfNums (b64n s r ++ grp s (3 * r)) := by
     unfold b64
     rw [show (s.size + 2) / 3 = r + 1 from by omega]
     rfl
    by_cases h1 : s.size - 3 * r = 1
    ·have z1 : gb s (3 * r) 1 = 0 := by unfold gb; rw [if_neg (by omega)]
     have z2 : gb s (3 * r) 2 = 0 := by unfold gb; rw [if_neg (by omega)]
     have a1 := and63U ((gb s (3 * r) 0 * 65536) / 262144) (by omega) (by omega)
     have a2 := and63U ((gb s (3 * r) 0 * 65536) / 4096) (by omega) (by omega)
     simp only [a1, a2]
     rw [if_pos (by omega), if_pos (by omega), if_pos (by omega), if_pos (by omega), if_pos (by omega), if_pos (by omega)]
     simp only [Option.bind_some, List.length_cons, List.length_nil]
     rw [if_pos (by omega), hfin]
     unfold grp
     rw [if_neg (by omega), if_neg (by omega)]
     unfold gx
     rw [z1, z2]
     simp only [Int.zero_mul, Int.add_zero]
     rfl
    ·have z2 : gb s (3 * r) 2 = 0 := by unfold gb; rw [if_neg (by omega)]
     have a1 := and63U ((gb s (3 * r) 0 * 65536 + gb s (3 * r) 1 * 256) / 262144) (by omega) (by omega)
     have a2 := and63U ((gb s (3 * r) 0 * 65536 + gb s (3 * r) 1 * 256) / 4096) (by omega) (by omega)
     have a3 := and63U ((gb s (3 * r) 0 * 65536 + gb s (3 * r) 1 * 256) / 64) (by omega) (by omega)
     simp only [a1, a2, a3]
     rw [if_neg (by omega), if_pos (by omega), if_pos (by omega), if_pos (by omega), if_pos (by omega), if_pos (by omega), if_pos (by omega), if_pos (by omega), if_pos (by omega), if_pos (by omega)]
     simp only [Option.bind_some, List.length_cons, List.length_nil]
     rw [if_pos (by omega), hfin]
     unfold grp
     rw [if_pos (by omega), if_neg (by omega)]
     unfold gx
     rw [z2]
     simp only [Int.add_zero]
     rfl
theorem b64_eq (s : ByteArray) (hs : s.size ≤ 2147483647) : smhttp_b64.f ((s.size + 2) / 3 + 1) (bytesOf s) = some (b64 s) := by
 have := b64_l0 s hs ((s.size + 2) / 3) 0 (by omega) (by omega) _ (Nat.le_refl _)
 exact this
/-- A text's bytes, as a slice, are read. -/
theorem V_of_BAt {w : World} {g : Nat} {zs : List Int} {s : ByteArray} (h : BAt w g zs) (ht : zs.take s.size = bytesOf s) (hz : zs.length ≤ 9223372036854775807) :
 Kd.V (Kd.int .u8) 5 w w.heap.size (fun k => k = g) (.slice (some ⟨g, 0, none⟩) (bytesOf s).length zs.length) (bytesOf s) := by
 have hle : s.size ≤ zs.length := by
  have := congrArg List.length ht
  simp [bytesOf_length] at this; omega
 refine Kd.V_mk (by rw [bytesOf_length]; exact hle) (fun W' hW => ?_)
 have hg : W'.heap[g]? = w.heap[g]? := hW g rfl h.lt
 have h' : BAt W' g zs := by
  obtain ⟨fr, h1, h2⟩ := h
  exact ⟨fr, hg.trans h1, h2⟩
 refine ⟨rfl, by rw [bytesOf_length]; omega, fun _ => ⟨⟨g, 0, none⟩, rfl, fun j p hj => ?_⟩⟩
 have hj2 : j < s.size := by
  have := (List.getElem?_eq_some_iff.1 hj).1
  rwa [bytesOf_length] at this
 refine ⟨[.int .u8 p], rfl, rfl, fun i u hi => ?_⟩
 match i, hi with
 | 0, hi =>
   obtain rfl := Option.some.inj hi
   rw [plain_add, Nat.zero_add]
   show W'.cell? ⟨g, j * 1 + 0, none⟩ = _
   rw [Nat.mul_one, Nat.add_zero, h'.cell j (by omega)]
   congr 2
   rw [← ht, List.getElem?_take, if_pos hj2] at hj
   rw [List.getD_eq_getElem?_getD, hj]
   rfl
/-- The text of a field, by its kind. -/
def txt (kind : Int) (text : ByteArray) (num : Int) : ByteArray := if kind = 6 then b64 text else kindS kind text num
set_option maxHeartbeats 400000 in
set_option maxRecDepth 100000 in
theorem hblob_call {B : Nat} {X : Nat → Prop} {m n : Nat} {T : ByteArray → Option (List ByteArray)} {w : World} (H : MapIn B X m n T w) (key : ByteArray) (add : Bool) (s : ByteArray) (hs : s.size ≤ 2147483647)
 {g : Nat} {zs : List Int} (hB : BAt w g zs) (ht : zs.take s.size = bytesOf s) (hz : zs.length ≤ 9223372036854775807) :
 Calls Tryz.prog 120 #[HV m key add, .slice (some ⟨g, 0, none⟩) s.size zs.length] w (PutP B X m n (putT T key (b64 s) add) w) := by
 replace H := Aside0.mk H
 have hb64 := fun (w' : World) (hb : Below w.heap.size w w') => smhttp_b64.calls _ (fun k => k = g) (some ⟨g, 0, none⟩) zs.length (bytesOf s) (b64 s) w' (V_of_BAt (hB.below hb) ht hz) (b64_eq s hs)
 rw [bytesOf_length] at hb64
 replace hb64 := Aside0.mk hb64
 clear ht hB
 unfold HV
 go_enter Tryz.func120, Tryz.ntmps120
 go_wp2_with fail
 have hb := below_alloc (Below.refl w.heap.size w) (.cells #[.map (some m), .string key, .bool add] 125)
 have hu := heap_new w (.cells #[.map (some m), .string key, .bool add] 125)
 generalize w.alloc (.cells #[.map (some m), .string key, .bool add] 125) = w1 at *
 refine (hb64.out w1 hb).mono ?_
 rintro e w2 ⟨rfl, hb2⟩
 have hu2 := heap_below hb2 hu
 have hb3 := Aside0.mk (below_then hb hb.size hb2)
 have c0 := cell_at hu2 0; have c1 := cell_at hu2 1; have c2 := cell_at hu2 2
 simp at c0 c1 c2
 clear hu hu2 hb hb2
 go_wp2_with fail
 have hc := mod_call (H.out.calm hb3.out) key (b64 s) add
 unfold HV at hc
 refine hc.mono ?_
 rintro e w' ⟨rfl, h1, h2⟩
 go_wp2
 refine bodyPost_end (results_none rfl _ _ _) rfl ?_
 exact PutP.from hb3.out ⟨rfl, h1, h2⟩ (fun _ _ h => h) H.out.low
end HH
end Go.Proofs.YtclmjmfcggkpaaaGreatDoor
set_option linter.unusedVariables false
set_option linter.unusedSimpArgs false
namespace Go.Proofs.YtclmjmfcggkpaaaGreatDoor
open Go.RowKit Go.Proofs.YtclmjmfcggkpaaaGreatDoorW.PrintWords Go.Proofs.YtclmjmfcggkpaaaGreatDoorW.PrintLast Go.Proofs.YtclmjmfcggkpaaaGreatDoorW.PrintMore
open PX
namespace HH
open H
/-! ### impl.inHeader -/
set_option maxHeartbeats 400000 in
set_option maxRecDepth 100000 in
theorem inHdr0 {B : Nat} {X : Nat → Prop} {m n : Nat} {T : ByteArray → Option (List ByteArray)} {w : World} (H : MapIn B X m n T w) (hT : Pow w) (key : ByteArray) (add : Bool) (text : ByteArray) (num : Int) (hn : -9223372036854775808 ≤ num ∧ num ≤ 9223372036854775807) (hs : text.size ≤ 2147483647) (wh : Int) (pre key' : ByteArray) :
 Calls Tryz.prog 75 #[HV m key add, FV wh pre key' 0 text num] w (PutP B X m n (putT T key text add) w) := by
 replace H := Aside0.mk H
 replace hT := Aside0.mk hT
 replace hn := Aside0.mk hn
 unfold HV FV
 go_enter Tryz.func75, Tryz.ntmps75
 go_wp2_with fail
 have hb := below_alloc (below_alloc (Below.refl w.heap.size w) (.cells #[.map (some m), .string key, .bool add] 125)) (.cells #[.int .i64 wh, .string pre, .string key', .int .i64 0, .string text, .int .i64 num] 48)
 have hsz : ((w.alloc (.cells #[.map (some m), .string key, .bool add] 125)).alloc (.cells #[.int .i64 wh, .string pre, .string key', .int .i64 0, .string text, .int .i64 num] 48)).heap.size = w.heap.size + 1 + 1 := by simp
 generalize (w.alloc (.cells #[.map (some m), .string key, .bool add] 125)).alloc (.cells #[.int .i64 wh, .string pre, .string key', .int .i64 0, .string text, .int .i64 num] 48) = w1 at *
 have hc := hstr_call (H.out.calm hb) key add text
 unfold HV at hc
 refine hc.mono ?_
 rintro e w' ⟨rfl, h1, h2⟩
 go_wp2
 refine bodyPost_end (results_none rfl _ _ _) rfl ?_
 exact PutP.from hb ⟨rfl, h1, h2⟩ (fun _ _ h => h) H.out.low
set_option maxHeartbeats 400000 in
set_option maxRecDepth 100000 in
theorem inHdr1 {B : Nat} {X : Nat → Prop} {m n : Nat} {T : ByteArray → Option (List ByteArray)} {w : World} (H : MapIn B X m n T w) (hT : Pow w) (key : ByteArray) (add : Bool) (text : ByteArray) (num : Int) (hn : -9223372036854775808 ≤ num ∧ num ≤ 9223372036854775807) (hs : text.size ≤ 2147483647) (wh : Int) (pre key' : ByteArray) :
 Calls Tryz.prog 75 #[HV m key add, FV wh pre key' 1 text num] w (PutP B X m n (putT T key (boolS (num != 0)) add) w) := by
 replace H := Aside0.mk H
 replace hT := Aside0.mk hT
 replace hn := Aside0.mk hn
 unfold HV FV
 go_enter Tryz.func75, Tryz.ntmps75
 go_wp2_with fail
 have hb := below_alloc (below_alloc (Below.refl w.heap.size w) (.cells #[.map (some m), .string key, .bool add] 125)) (.cells #[.int .i64 wh, .string pre, .string key', .int .i64 1, .string text, .int .i64 num] 48)
 have hsz : ((w.alloc (.cells #[.map (some m), .string key, .bool add] 125)).alloc (.cells #[.int .i64 wh, .string pre, .string key', .int .i64 1, .string text, .int .i64 num] 48)).heap.size = w.heap.size + 1 + 1 := by simp
 generalize (w.alloc (.cells #[.map (some m), .string key, .bool add] 125)).alloc (.cells #[.int .i64 wh, .string pre, .string key', .int .i64 1, .string text, .int .i64 num] 48) = w1 at *
 have hc := hbool_call (H.out.calm hb) key add (num != 0)
 unfold HV at hc
 refine hc.mono ?_
 rintro e w' ⟨rfl, h1, h2⟩
 go_wp2
 refine bodyPost_end (results_none rfl _ _ _) rfl ?_
 exact PutP.from hb ⟨rfl, h1, h2⟩ (fun _ _ h => h) H.out.low
set_option maxHeartbeats 400000 in
set_option maxRecDepth 100000 in
theorem inHdr2 {B : Nat} {X : Nat → Prop} {m n : Nat} {T : ByteArray → Option (List ByteArray)} {w : World} (H : MapIn B X m n T w) (hT : Pow w) (key : ByteArray) (add : Bool) (text : ByteArray) (num : Int) (hn : -9223372036854775808 ≤ num ∧ num ≤ 9223372036854775807) (hs : text.size ≤ 2147483647) (wh : Int) (pre key' : ByteArray) :
 Calls Tryz.prog 75 #[HV m key add, FV wh pre key' 2 text num] w (PutP B X m n (putT T key (decS (IntKind.i8.wrap num)) add) w) := by
 replace H := Aside0.mk H
 replace hT := Aside0.mk hT
 replace hn := Aside0.mk hn
 unfold HV FV
 go_enter Tryz.func75, Tryz.ntmps75
 go_wp2_with fail
 have hb := below_alloc (below_alloc (Below.refl w.heap.size w) (.cells #[.map (some m), .string key, .bool add] 125)) (.cells #[.int .i64 wh, .string pre, .string key', .int .i64 2, .string text, .int .i64 num] 48)
 have hsz : ((w.alloc (.cells #[.map (some m), .string key, .bool add] 125)).alloc (.cells #[.int .i64 wh, .string pre, .string key', .int .i64 2, .string text, .int .i64 num] 48)).heap.size = w.heap.size + 1 + 1 := by simp
 generalize (w.alloc (.cells #[.map (some m), .string key, .bool add] 125)).alloc (.cells #[.int .i64 wh, .string pre, .string key', .int .i64 2, .string text, .int .i64 num] 48) = w1 at *
 have hc := hi8_call (H.out.calm hb) key add (hT.out.below hb) _ (i8_rng num).1 (i8_rng num).2
 unfold HV at hc
 refine hc.mono ?_
 rintro e w' ⟨rfl, h1, h2⟩
 go_wp2
 refine bodyPost_end (results_none rfl _ _ _) rfl ?_
 exact PutP.from hb ⟨rfl, h1, h2⟩ (fun _ _ h => h) H.out.low
set_option maxHeartbeats 400000 in
set_option maxRecDepth 100000 in
theorem inHdr3 {B : Nat} {X : Nat → Prop} {m n : Nat} {T : ByteArray → Option (List ByteArray)} {w : World} (H : MapIn B X m n T w) (hT : Pow w) (key : ByteArray) (add : Bool) (text : ByteArray) (num : Int) (hn : -9223372036854775808 ≤ num ∧ num ≤ 9223372036854775807) (hs : text.size ≤ 2147483647) (wh : Int) (pre key' : ByteArray) :
 Calls Tryz.prog 75 #[HV m key add, FV wh pre key' 3 text num] w (PutP B X m n (putT T key (decS (IntKind.i16.wrap num)) add) w) := by
 replace H := Aside0.mk H
 replace hT := Aside0.mk hT
 replace hn := Aside0.mk hn
 unfold HV FV
 go_enter Tryz.func75, Tryz.ntmps75
 go_wp2_with fail
 have hb := below_alloc (below_alloc (Below.refl w.heap.size w) (.cells #[.map (some m), .string key, .bool add] 125)) (.cells #[.int .i64 wh, .string pre, .string key', .int .i64 3, .string text, .int .i64 num] 48)
 have hsz : ((w.alloc (.cells #[.map (some m), .string key, .bool add] 125)).alloc (.cells #[.int .i64 wh, .string pre, .string key', .int .i64 3, .string text, .int .i64 num] 48)).heap.size = w.heap.size + 1 + 1 := by simp
 generalize (w.alloc (.cells #[.map (some m), .string key, .bool add] 125)).alloc (.cells #[.int .i64 wh, .string pre, .string key', .int .i64 3, .string text, .int .i64 num] 48) = w1 at *
 have hc := hi16_call (H.out.calm hb) key add (hT.out.below hb) _ (i16_rng num).1 (i16_rng num).2
 unfold HV at hc
 refine hc.mono ?_
 rintro e w' ⟨rfl, h1, h2⟩
 go_wp2
 refine bodyPost_end (results_none rfl _ _ _) rfl ?_
 exact PutP.from hb ⟨rfl, h1, h2⟩ (fun _ _ h => h) H.out.low
set_option maxHeartbeats 400000 in
set_option maxRecDepth 100000 in
theorem inHdr4 {B : Nat} {X : Nat → Prop} {m n : Nat} {T : ByteArray → Option (List ByteArray)} {w : World} (H : MapIn B X m n T w) (hT : Pow w) (key : ByteArray) (add : Bool) (text : ByteArray) (num : Int) (hn : -9223372036854775808 ≤ num ∧ num ≤ 9223372036854775807) (hs : text.size ≤ 2147483647) (wh : Int) (pre key' : ByteArray) :
 Calls Tryz.prog 75 #[HV m key add, FV wh pre key' 4 text num] w (PutP B X m n (putT T key (decS (wrap32 num)) add) w) := by
 replace H := Aside0.mk H
 replace hT := Aside0.mk hT
 replace hn := Aside0.mk hn
 unfold HV FV
 go_enter Tryz.func75, Tryz.ntmps75
 go_wp2_with fail
 have hb := below_alloc (below_alloc (Below.refl w.heap.size w) (.cells #[.map (some m), .string key, .bool add] 125)) (.cells #[.int .i64 wh, .string pre, .string key', .int .i64 4, .string text, .int .i64 num] 48)
 have hsz : ((w.alloc (.cells #[.map (some m), .string key, .bool add] 125)).alloc (.cells #[.int .i64 wh, .string pre, .string key', .int .i64 4, .string text, .int .i64 num] 48)).heap.size = w.heap.size + 1 + 1 := by simp
 generalize (w.alloc (.cells #[.map (some m), .string key, .bool add] 125)).alloc (.cells #[.int .i64 wh, .string pre, .string key', .int .i64 4, .string text, .int .i64 num] 48) = w1 at *
 have hc := hi32_call (H.out.calm hb) key add (hT.out.below hb) _ (i32_rng num).1 (i32_rng num).2
 unfold HV at hc
 refine hc.mono ?_
 rintro e w' ⟨rfl, h1, h2⟩
 go_wp2
 refine bodyPost_end (results_none rfl _ _ _) rfl ?_
 exact PutP.from hb ⟨rfl, h1, h2⟩ (fun _ _ h => h) H.out.low
set_option maxHeartbeats 2000000 in
set_option maxRecDepth 100000 in
theorem inHdr6 {B : Nat} {X : Nat → Prop} {m n : Nat} {T : ByteArray → Option (List ByteArray)} {w : World} (H : MapIn B X m n T w) (hT : Pow w) (key : ByteArray) (add : Bool) (text : ByteArray) (num : Int) (hn : -9223372036854775808 ≤ num ∧ num ≤ 9223372036854775807) (hs : text.size ≤ 2147483647) (wh : Int) (pre key' : ByteArray) :
 Calls Tryz.prog 75 #[HV m key add, FV wh pre key' 6 text num] w (PutP B X m n (putT T key (b64 text) add) w) := by
 replace H := Aside0.mk H
 replace hT := Aside0.mk hT
 replace hn := Aside0.mk hn
 unfold HV FV
 have hcv := fun (w : World) (s : ByteArray) => Lib.run_convert_string_bytes (P := Tryz.prog) w 9 104 5 s (u := .string) Tryz.underlying9 Tryz.underlying104 Tryz.underlying5
 go_enter Tryz.func75, Tryz.ntmps75
 go_wp2_with fail
 have hb := below_alloc (below_alloc (Below.refl w.heap.size w) (.cells #[.map (some m), .string key, .bool add] 125)) (.cells #[.int .i64 wh, .string pre, .string key', .int .i64 6, .string text, .int .i64 num] 48)
 have hsz : ((w.alloc (.cells #[.map (some m), .string key, .bool add] 125)).alloc (.cells #[.int .i64 wh, .string pre, .string key', .int .i64 6, .string text, .int .i64 num] 48)).heap.size = w.heap.size + 1 + 1 := by simp
 generalize (w.alloc (.cells #[.map (some m), .string key, .bool add] 125)).alloc (.cells #[.int .i64 wh, .string pre, .string key', .int .i64 6, .string text, .int .i64 num] 48) = w1 at *
 have hb1 := bytesWorld_below w1 text
 have ha1 := BAt.of_string w1 text
 rw [hsz] at ha1
 rw [← strZs_length w1 text]
 have ht1 := strZs_take w1 text
 have hc1 : (strZs w1 text).length ≤ 9223372036854775807 := by rw [strZs_length]; have := grownCap_le_maxLen w1 text.size 0 5 (by unfold maxLen; omega); unfold maxLen at this; omega
 have hb2 := Aside0.mk (below_then hb hb.size hb1)
 generalize strZs w1 text = z1 at *
 generalize Lib.bytesWorld w1 5 text = w2 at *
 have hc := hblob_call (H.out.calm hb2.out) key add text hs ha1 ht1 hc1
 unfold HV at hc
 refine hc.mono ?_
 rintro e w' ⟨rfl, h1, h2⟩
 go_wp2
 refine bodyPost_end (results_none rfl _ _ _) rfl ?_
 exact PutP.from hb2.out ⟨rfl, h1, h2⟩ (fun _ _ h => h) H.out.low
theorem inHdr_call {B : Nat} {X : Nat → Prop} {m n : Nat} {T : ByteArray → Option (List ByteArray)} {w : World} (H : MapIn B X m n T w) (hT : Pow w) (key : ByteArray) (add : Bool) (kind : Int) (hk : 0 ≤ kind ∧ kind ≤ 6) (text : ByteArray) (num : Int) (hn : -9223372036854775808 ≤ num ∧ num ≤ 9223372036854775807) (hs : text.size ≤ 2147483647) (wh : Int) (pre key' : ByteArray) :
 Calls Tryz.prog 75 #[HV m key add, FV wh pre key' kind text num] w (PutP B X m n (putT T key (txt kind text num) add) w) := by
 rcases (by omega : kind = 0 ∨ kind = 1 ∨ kind = 2 ∨ kind = 3 ∨ kind = 4 ∨ kind = 5 ∨ kind = 6) with h | h | h | h | h | h | h
 ·subst h; exact inHdr0 H hT key add text num hn hs wh pre key'
 ·subst h; exact inHdr1 H hT key add text num hn hs wh pre key'
 ·subst h; exact inHdr2 H hT key add text num hn hs wh pre key'
 ·subst h; exact inHdr3 H hT key add text num hn hs wh pre key'
 ·subst h; exact inHdr4 H hT key add text num hn hs wh pre key'
 ·subst h; exact inHdr5 H hT key add text num hn hs wh pre key'
 ·subst h; exact inHdr6 H hT key add text num hn hs wh pre key'
end HH
end Go.Proofs.YtclmjmfcggkpaaaGreatDoor
