import Derived.Test.YtclmjmfcggkpaaaGreatDoorQ6
import Derived.Test.YtclmjmfcggkpaaaGreatDoorQ7
import Derived.Test.YtclmjmfcggkpaaaGreatDoorQ8
namespace Go.Proofs.YtclmjmfcggkpaaaGreatDoor
open Go.RowKit Go.Proofs.YtclmjmfcggkpaaaGreatDoorW.PrintWords Go.Proofs.YtclmjmfcggkpaaaGreatDoorW.PrintLast Go.Proofs.YtclmjmfcggkpaaaGreatDoorW.PrintMore
namespace H
/-! ### Escaping, plainly -/
def unres (c : Int) : Bool := decide ((97 ≤ c ∧ c ≤ 122) ∨ (65 ≤ c ∧ c ≤ 90) ∨ (48 ≤ c ∧ c ≤ 57) ∨ c = 45 ∨ c = 46 ∨ c = 95 ∨ c = 126)
def hexd (n : Int) : Int := if n < 10 then 48 + n else 55 + n
def esc1 (slash : Bool) (c : Int) : List Int := if unres c || (slash && c == 47) then [c] else [37, hexd (c / 16), hexd (c % 16)]
def escB (slash : Bool) (xs : List Int) : List Int := xs.flatMap (esc1 slash)
theorem escB_snoc (slash : Bool) (xs : List Int) (c : Int) : escB slash (xs ++ [c]) = escB slash xs ++ esc1 slash c := by simp [escB]
theorem esc1_len (slash : Bool) (c : Int) : (esc1 slash c).length ≤ 3 := by unfold esc1; split <;> simp
theorem escB_len (slash : Bool) (xs : List Int) : (escB slash xs).length ≤ 3 * xs.length := by
 induction xs with
 | nil => simp [escB]
 | cons x xs ih =>
   have := esc1_len slash x
   simp only [escB, List.flatMap_cons, List.length_append, List.length_cons] at *
   omega
theorem noEsc_eq (c : Int) : PX.smhttp_noEscape.f c = some (unres c) := by
 unfold PX.smhttp_noEscape.f unres
 repeat' split
 all_goals (congr 1; rw [Bool.eq_iff_iff]; simp; try omega)
theorem and15 (c : Int) (h0 : 0 ≤ c) (h1 : c ≤ 255) : Go.bits .and .u8 c 15 = c % 16 := by
 have : ∀ n : Nat, n < 256 → Go.bits .and .u8 (n : Int) 15 = (n : Int) % 16 := by decide +kernel
 obtain ⟨n, rfl⟩ := Int.eq_ofNat_of_zero_le h0
 exact this n (by omega)
theorem hex_bt (n : Int) (h0 : 0 ≤ n) (h1 : n < 16) : bt (⟨#[48, 49, 50, 51, 52, 53, 54, 55, 56, 57, 65, 66, 67, 68, 69, 70]⟩ : ByteArray) n = hexd n := by
 have : ∀ m : Nat, m < 16 → bt (⟨#[48, 49, 50, 51, 52, 53, 54, 55, 56, 57, 65, 66, 67, 68, 69, 70]⟩ : ByteArray) (m : Int) = hexd (m : Int) := by decide +kernel
 obtain ⟨m, rfl⟩ := Int.eq_ofNat_of_zero_le h0
 exact this m (by omega)
theorem hexSign_eq (c : Int) (h0 : 0 ≤ c) (h1 : c ≤ 255) : PX.smhttp_hexSign.f c = some (strOfNums [37, hexd (c / 16), hexd (c % 16)]) := by
 unfold PX.smhttp_hexSign.f
 rw [and15 c h0 h1, if_pos (by omega), if_pos (by omega), if_pos (by omega), if_pos (by omega), hex_bt _ (by omega) (by omega), hex_bt _ (by omega) (by omega)]
end H
end Go.Proofs.YtclmjmfcggkpaaaGreatDoor
namespace Go.Proofs.YtclmjmfcggkpaaaGreatDoor
open Go.RowKit Go.Proofs.YtclmjmfcggkpaaaGreatDoorW.PrintWords Go.Proofs.YtclmjmfcggkpaaaGreatDoorW.PrintLast Go.Proofs.YtclmjmfcggkpaaaGreatDoorW.PrintMore
namespace H
theorem noEsc_call (c : Int) (b : Bool) (w : World) (h : unres c = b) : Calls Tryz.prog 90 #[.int .u8 c] w fun e w' => e = .returned (.bool b) ∧ Below w.heap.size w w' :=
 (PX.smhttp_noEscape.calls c b w (by rw [noEsc_eq, h])).mono fun _ _ ⟨h1, h2⟩ => ⟨h1, h2.below⟩
theorem step_below {B : Nat} {w0 w w1 : World} (h : Below B w0 w) (hB : B ≤ w.heap.size) (k : Below w.heap.size w w1) : Below B w0 w1 := below_then h hB k
theorem hexSign_call (c : Int) (w : World) (h0 : 0 ≤ c) (h1 : c ≤ 255) : Calls Tryz.prog 93 #[.int .u8 c] w fun e w' => e = .returned (.string (strOfNums [37, hexd (c / 16), hexd (c % 16)])) ∧ Below w.heap.size w w' :=
 PX.smhttp_hexSign.calls c _ w (hexSign_eq c h0 h1)
theorem bytes_take (s : ByteArray) (k : Nat) (h : k < s.size) : (bytesOf s).take (k + 1) = (bytesOf s).take k ++ [bt s k] := by
 rw [List.take_succ_eq_append_getElem (by rw [bytesOf_length]; exact h)]
 congr 2
 have := rd_bytesOf s (k : Int)
 simp only [rd, Int.toNat_natCast] at this
 rw [← this, List.getD_eq_getElem?_getD, List.getElem?_eq_getElem (by rw [bytesOf_length]; exact h)]
 rfl
theorem bytesOf_strOf (xs : List Int) (h : ∀ x ∈ xs, 0 ≤ x ∧ x ≤ 255) : bytesOf (strOfNums xs) = xs := by
 unfold bytesOf
 rw [strOfNums_data, List.map_map]
 conv => rhs; rw [← List.map_id xs]
 apply List.map_congr_left
 intro x hx
 have := h x hx
 simp only [Function.comp, id, UInt8.toNat_ofNat']
 omega
theorem hexd_range (n : Int) (h0 : 0 ≤ n) (h1 : n < 16) : 0 ≤ hexd n ∧ hexd n ≤ 255 := by unfold hexd; split <;> omega
set_option maxHeartbeats 400000 in
set_option maxRecDepth 100000 in
theorem escPath (s : ByteArray) (sep : Bool) (w : World) (hs : 3 * s.size ≤ 140737488355328) :
 Calls Tryz.prog 57 #[.string s, .bool sep] w fun e w' => e = .returned (.string (strOfNums (escB (!sep) (bytesOf s)))) ∧ Below w.heap.size w w' := by
 go_enter Tryz.func57, Tryz.ntmps57
 go_wp2_with fail
 go_loopg [6] s.size (fun g v6 w' => ∃ k : Nat, k ≤ s.size ∧ v6 = .int .i64 k ∧ g = s.size - k ∧ Aside0 (Buf w' w.heap.size (escB (!sep) ((bytesOf s).take k))) ∧ Aside0 (Below w.heap.size w w'))
 case atStart => exact ⟨0, Nat.zero_le _, rfl, by omega, ⟨⟨_, by simpa using heap_new w _, own_nil _ _ _ _⟩⟩, ⟨below_alloc (Below.refl _ _) _⟩⟩
 case round =>
  obtain ⟨k, hk, rfl, hg, HB, HL⟩ := hrel
  have hwl : w.heap.size < wr.heap.size := HB.out.lt
  by_cases hlt : k < s.size
  ·have hx : bt s k = ((s[k]'hlt).toNat : Int) := by simp [bt, hlt]
   have hr := bt_range s (k : Int)
   have hlen := escB_len (!sep) ((bytesOf s).take k)
   have htk : ((bytesOf s).take k).length ≤ k := List.length_take_le _ _
   have hsn := escB_snoc (!sep) ((bytesOf s).take k) (bt s k)
   have hts := bytes_take s k hlt
   rw [← hts] at hsn
   rw [hx] at hr hsn
   clear hx hts
   replace hsn := Aside0.mk hsn
   replace hg := Aside0.mk hg
   go_wp2_with fail
   generalize ((s[k]'hlt).toNat : Int) = c at *
   cases hu : unres c with
   | true =>
     refine (noEsc_call c true _ hu).mono ?_
     rintro e w2 ⟨rfl, hb2⟩
     replace HB := Aside0.mk (HB.out.below hb2); replace HL := Aside0.mk (step_below HL.out (by omega) hb2); have hwl2 := HB.out.lt; clear hb2
     replace hu := Aside0.mk hu
     go_wp2_with fail
     refine (wb _ (escB (!sep) ((bytesOf s).take k)) c _ HB.out (by omega)).mono ?_
     rintro e w1 ⟨rfl, hb1, hl1⟩
     replace HB := Aside0.mk hb1; replace HL := Aside0.mk (HL.out.trans hl1); clear hb1 hl1
     go_wp2_with fail
     go_roundg (s.size - (k + 1))
     case rel => exact ⟨k + 1, by omega, by go_num, by omega, ⟨by rw [hsn.out]; unfold esc1; rw [hu.out]; simpa using HB.out⟩, HL⟩
     case measure => have := hg.out; omega
   | false =>
     refine (noEsc_call c false _ hu).mono ?_
     rintro e w2 ⟨rfl, hb2⟩
     replace HB := Aside0.mk (HB.out.below hb2); replace HL := Aside0.mk (step_below HL.out (by omega) hb2); have hwl2 := HB.out.lt; clear hb2
     replace hu := Aside0.mk hu
     go_wp2_with fail
     ·refine (wb _ (escB (!sep) ((bytesOf s).take k)) 47 _ HB.out (by omega)).mono ?_
      rintro e w1 ⟨rfl, hb1, hl1⟩
      replace HB := Aside0.mk hb1; replace HL := Aside0.mk (HL.out.trans hl1); clear hb1 hl1
      go_wp2_with fail
      go_roundg (s.size - (k + 1))
      case rel => exact ⟨k + 1, by omega, by go_num, by omega, ⟨by rw [hsn.out, show esc1 (!sep) c = [47] from by simp [esc1, show unres 47 = false from by decide, *]]; exact HB.out⟩, HL⟩
      case measure => have := hg.out; omega
     ·refine (hexSign_call 47 _ (by omega) (by omega)).mono ?_
      rintro e w3 ⟨rfl, hb3⟩
      replace HB := Aside0.mk (HB.out.below hb3); replace HL := Aside0.mk (step_below HL.out (by omega) hb3); have hwl3 := HB.out.lt; clear hb3
      go_wp2_with fail
      refine (ws _ (escB (!sep) ((bytesOf s).take k)) _ _ HB.out ?hl).mono ?_
      case hl => rw [strOfNums_size]; simp; omega
      rintro e w1 ⟨rfl, hb1, hl1⟩
      rw [bytesOf_strOf _ (by decide)] at hb1
      replace HB := Aside0.mk hb1; replace HL := Aside0.mk (HL.out.trans hl1); clear hb1 hl1
      go_wp2_with fail
      go_roundg (s.size - (k + 1))
      case rel => exact ⟨k + 1, by omega, by go_num, by omega, ⟨by rw [hsn.out, show esc1 (!sep) c = [37, hexd 2, hexd 15] from by simp [esc1, show unres 47 = false from by decide, *]]; exact HB.out⟩, HL⟩
      case measure => have := hg.out; omega
     ·refine (hexSign_call c _ (by omega) (by omega)).mono ?_
      rintro e w3 ⟨rfl, hb3⟩
      replace HB := Aside0.mk (HB.out.below hb3); replace HL := Aside0.mk (step_below HL.out (by omega) hb3); have hwl3 := HB.out.lt; clear hb3
      have h1 := hexd_range (c / 16) (by omega) (by omega)
      have h2 := hexd_range (c % 16) (by omega) (by omega)
      go_wp2_with fail
      refine (ws _ (escB (!sep) ((bytesOf s).take k)) (strOfNums [37, hexd (c / 16), hexd (c % 16)]) _ HB.out (by rw [strOfNums_size]; simp; omega)).mono ?_
      rintro e w1 ⟨rfl, hb1, hl1⟩
      rw [bytesOf_strOf _ (by simp; omega)] at hb1
      replace HB := Aside0.mk hb1; replace HL := Aside0.mk (HL.out.trans hl1); clear hb1 hl1
      go_wp2_with fail
      go_roundg (s.size - (k + 1))
      case rel => exact ⟨k + 1, by omega, by go_num, by omega, ⟨by rw [hsn.out, show esc1 (!sep) c = [37, hexd (c / 16), hexd (c % 16)] from by simp [esc1, hu.out, *]]; exact HB.out⟩, HL⟩
      case measure => have := hg.out; omega
  ·rw [List.take_of_length_le (show (bytesOf s).length ≤ k by rw [bytesOf_length]; omega)] at HB
   go_wp2_with fail
   refine (bstr _ _ _ HB.out).mono ?_
   rintro e w' ⟨rfl, rfl⟩
   go_wp2
   go_ret
   exact ⟨rfl, HL.out⟩
end H
end Go.Proofs.YtclmjmfcggkpaaaGreatDoor
namespace Go.Proofs.YtclmjmfcggkpaaaGreatDoor
open Go.RowKit Go.Proofs.YtclmjmfcggkpaaaGreatDoorW.PrintWords Go.Proofs.YtclmjmfcggkpaaaGreatDoorW.PrintLast Go.Proofs.YtclmjmfcggkpaaaGreatDoorW.PrintMore
namespace H
/-! ### The table of package net/url -/
def tabL : List Int := [0, 0, 0, 0, 0, 0, 0, 0, 0, 0, 0, 0, 0, 0, 0, 0, 0, 0, 0, 0, 0, 0, 0, 0, 0, 0, 0, 0, 0, 0, 0, 0, 0, 76, 12, 0, 95, 0, 95, 12, 76, 76, 76, 95, 93, 127, 127, 65, 255, 255, 255, 255, 255, 255, 255, 255, 255, 255, 79, 93, 12, 95, 12, 64, 67, 255, 255, 255, 255, 255, 255, 127, 127, 127, 127, 127, 127, 127, 127, 127, 127, 127, 127, 127, 127, 127, 127, 127, 127, 127, 127, 12, 0, 12, 0, 127, 0, 255, 255, 255, 255, 255, 255, 127, 127, 127, 127, 127, 127, 127, 127, 127, 127, 127, 127, 127, 127, 127, 127, 127, 127, 127, 127, 0, 0, 0, 127, 0, 0, 0, 0, 0, 0, 0, 0, 0, 0, 0, 0, 0, 0, 0, 0, 0, 0, 0, 0, 0, 0, 0, 0, 0, 0, 0, 0, 0, 0, 0, 0, 0, 0, 0, 0, 0, 0, 0, 0, 0, 0, 0, 0, 0, 0, 0, 0, 0, 0, 0, 0, 0, 0, 0, 0, 0, 0, 0, 0, 0, 0, 0, 0, 0, 0, 0, 0, 0, 0, 0, 0, 0, 0, 0, 0, 0, 0, 0, 0, 0, 0, 0, 0, 0, 0, 0, 0, 0, 0, 0, 0, 0, 0, 0, 0, 0, 0, 0, 0, 0, 0, 0, 0, 0, 0, 0, 0, 0, 0, 0, 0, 0, 0, 0, 0, 0, 0, 0, 0, 0, 0, 0, 0, 0, 0, 0, 0, 0]
def tab (c : Nat) : Int := tabL.getD c 0
/-- The table's cells are laid in the world. -/
def Tab (w : World) : Prop := ∀ c : Nat, c < 256 → w.cell? ⟨1, c, none⟩ = some (.int .u8 (tab c))
theorem Tab.lt {w : World} (h : Tab w) : 1 < w.heap.size := World.block_lt_of_cell? w _ (h 0 (by omega))
theorem Tab.below {w w1 : World} (h : Tab w) {B : Nat} (hb : Below B w w1) (hB : 1 < B) : Tab w1 := fun c hc => by rw [hb.cell (p := ⟨1, c, none⟩) hB]; exact h c hc
theorem Tab.fr {S : Nat → Prop} {w w1 : World} (h : Tab w) (hb : Fr S w w1) (hB : ¬ S 1) : Tab w1 := fun c hc => by
 rw [World.cell?_of_block (w := w) (hb.block 1 h.lt hB)]; exact h c hc
set_option maxRecDepth 100000 in
theorem tab_range (c : Nat) : 0 ≤ tab c ∧ tab c ≤ 255 := by
 have h : ∀ c : Nat, c < 256 → 0 ≤ tab c ∧ tab c ≤ 255 := by decide +kernel
 by_cases hc : c < 256
 ·exact h c hc
 ·have : tab c = 0 := by unfold tab; rw [List.getD_eq_getElem?_getD, List.getElem?_eq_none (by rw [show tabL.length = 256 from by decide]; omega)]; rfl
  omega
/-- What must be escaped, by mode. -/
def should (c : Int) (m : Int) : Bool := Go.bits .and .u8 (tab c.toNat) m == 0
def hexB (c : Int) : Bool := Go.bits .and .u8 (tab c.toNat) 128 != 0
set_option maxHeartbeats 400000 in
set_option maxRecDepth 100000 in
theorem should_call (c m : Int) (w : World) (hT : Tab w) (h0 : 0 ≤ c) (h1 : c ≤ 255) :
 Calls Tryz.prog 133 #[.int .u8 c, .int .u8 m] w fun e w' => e = .returned (.bool (should c m)) ∧ w = w' := by
 obtain ⟨n, rfl⟩ := Int.eq_ofNat_of_zero_le h0
 have hc := hT n (by omega)
 have hr := tab_range n
 clear hT
 go_enter Tryz.func133, Tryz.ntmps133
 go_wp2
 go_ret
 exact ⟨rfl, rfl⟩
set_option maxHeartbeats 400000 in
set_option maxRecDepth 100000 in
theorem ishex_call (c : Int) (w : World) (hT : Tab w) (h0 : 0 ≤ c) (h1 : c ≤ 255) :
 Calls Tryz.prog 134 #[.int .u8 c] w fun e w' => e = .returned (.bool (hexB c)) ∧ w = w' := by
 obtain ⟨n, rfl⟩ := Int.eq_ofNat_of_zero_le h0
 have hc := hT n (by omega)
 have hr := tab_range n
 clear hT
 go_enter Tryz.func134, Tryz.ntmps134
 go_wp2
 go_ret
 exact ⟨rfl, rfl⟩
/-- What may stand in a path that is told escaped. -/
def pathOk (c : Int) : Bool := unres c || c == 47 || c == 37
theorem pathOk_should (c : Int) (h0 : 0 ≤ c) (h1 : c ≤ 255) (h : pathOk c = true) (hp : c ≠ 37) : should c 1 = false := by
 have : ∀ n : Nat, n < 256 → pathOk (n : Int) = true → (n : Int) ≠ 37 → should (n : Int) 1 = false := by decide +kernel
 obtain ⟨n, rfl⟩ := Int.eq_ofNat_of_zero_le h0
 exact this n (by omega) h hp
set_option maxHeartbeats 1000000 in
set_option maxRecDepth 100000 in
theorem validEnc_call (s : ByteArray) (w : World) (hT : Tab w) (hs : s.size ≤ 140737488355328) (hok : ∀ c ∈ bytesOf s, pathOk c = true) :
 Calls Tryz.prog 85 #[.string s, .int .u8 1] w fun e w' => e = .returned (.bool true) ∧ w = w' := by
 replace hT := Aside0.mk hT
 replace hok := Aside0.mk hok
 go_enter Tryz.func85, Tryz.ntmps85
 go_wp2_with fail
 go_loop [5] (fun v5 => ∃ k : Nat, k ≤ s.size ∧ v5 = .int .i64 k) (fun v5 => s.size - (intOf v5).toNat)
 case atStart => exact ⟨0, Nat.zero_le _, rfl⟩
 case round =>
  obtain ⟨k, hk, rfl⟩ := hrel
  by_cases hlt : k < s.size
  ·have hx : bt s k = ((s[k]'hlt).toNat : Int) := by simp [bt, hlt]
   have hr := bt_range s (k : Int)
   have hm : pathOk (bt s k) = true := hok.out _ (by
    rw [← rd_bytesOf, rd, Int.toNat_natCast, List.getD_eq_getElem?_getD, List.getElem?_eq_getElem (by rw [bytesOf_length]; exact hlt)]
    exact List.getElem_mem _)
   rw [hx] at hr hm
   clear hx
   have hsh : ((s[k]'hlt).toNat : Int) ≠ 37 → should ((s[k]'hlt).toNat : Int) 1 = false := pathOk_should _ hr.1 hr.2 hm
   clear hm
   by_cases h37 : ((s[k]'hlt).toNat : Int) = 37
   ·clear hsh
    go_wp2
    go_round
    case rel => exact ⟨k + 1, by omega, by go_num⟩
    case measure => simp [intOf]; omega
   ·replace hsh := Aside0.mk (hsh h37)
    go_wp2_with (go_at_call 133; refine (should_call ((s[k]'hlt).toNat : Int) 1 _ hT.out hr.1 hr.2).mono ?_; rw [hsh.out]; rintro e w' ⟨rfl, rfl⟩)
    all_goals
     go_round
     case rel => exact ⟨k + 1, by omega, by go_num⟩
     case measure => simp [intOf]; omega
  ·go_wp2
   go_ret
   exact ⟨rfl, rfl⟩
end H
end Go.Proofs.YtclmjmfcggkpaaaGreatDoor
