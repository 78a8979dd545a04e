import Derived.Test.YtclmjmfcggkpaaaGreatDoorM7
import Derived.Test.YtclmjmfcggkpaaaGreatDoorM8
import Derived.Test.YtclmjmfcggkpaaaGreatDoorM9
namespace Go.Proofs.YtclmjmfcggkpaaaGreatDoor
open Go.RowKit Go.Proofs.YtclmjmfcggkpaaaGreatDoorW.PrintWords Go.Proofs.YtclmjmfcggkpaaaGreatDoorW.PrintLast Go.Proofs.YtclmjmfcggkpaaaGreatDoorW.PrintMore
namespace H
/-! ### Escaping, plainly -/
def unres (c : Int) : Bool := decide ((97 ≤ c ∧ c ≤ 122) ∨ (65 ≤ c ∧ c ≤ 90) ∨ (48 ≤ c ∧ c ≤ 57) ∨ c = 45 ∨ c = 46 ∨ c = 95 ∨ c = 126)
def hexd (n : Int) : Int := if n < 10 then 48 + n else 55 + n
def esc1 (slash : Bool) (c : Int) : List Int := if unres c || (slash && c == 47) then [c] else [37, hexd (c / 16), hexd (c % 16)]
def escB (slash : Bool) (xs : List Int) : List Int := xs.flatMap (esc1 slash)
theorem escB_snoc (slash : Bool) (xs : List Int) (c : Int) : escB slash (xs ++ [c]) = escB slash xs ++ esc1 slash c := by simp [escB]
theorem esc1_len (slash : Bool) (c : Int) : (esc1 slash c).length ≤ 3 := by unfold esc1; split <;> simp
theorem escB_len (slash : Bool) (xs : List Int) : (escB slash xs).length ≤ 3 * xs.length := by
  induction xs with
  | nil => simp [escB]
  | cons x xs ih =>
    have := esc1_len slash x
    simp only [escB, List.flatMap_cons, List.length_append, List.length_cons] at *
    omega
theorem noEsc_eq (c : Int) : PX.smhttp_noEscape.f c = some (unres c) := by
  unfold PX.smhttp_noEscape.f unres
  repeat' split
  all_goals (congr 1; rw [Bool.eq_iff_iff]; simp; try omega)
theorem and15 (c : Int) (h0 : 0 ≤ c) (h1 : c ≤ 255) : Go.bits .and .u8 c 15 = c % 16 := by
  have : ∀ n : Nat, n < 256 → Go.bits .and .u8 (n : Int) 15 = (n : Int) % 16 := by decide +kernel
  obtain ⟨n, rfl⟩ := Int.eq_ofNat_of_zero_le h0
  exact this n (by omega)
theorem hex_bt (n : Int) (h0 : 0 ≤ n) (h1 : n < 16) : bt (⟨#[48, 49, 50, 51, 52, 53, 54, 55, 56, 57, 65, 66, 67, 68, 69, 70]⟩ : ByteArray) n = hexd n := by
  have : ∀ m : Nat, m < 16 → bt (⟨#[48, 49, 50, 51, 52, 53, 54, 55, 56, 57, 65, 66, 67, 68, 69, 70]⟩ : ByteArray) (m : Int) = hexd (m : Int) := by decide +kernel
  obtain ⟨m, rfl⟩ := Int.eq_ofNat_of_zero_le h0
  exact this m (by omega)
theorem hexSign_eq (c : Int) (h0 : 0 ≤ c) (h1 : c ≤ 255) : PX.smhttp_hexSign.f c = some (strOfNums [37, hexd (c / 16), hexd (c % 16)]) := by
  unfold PX.smhttp_hexSign.f
  rw [and15 c h0 h1, if_pos (by omega), if_pos (by omega), if_pos (by omega), if_pos (by omega), hex_bt _ (by omega) (by omega), hex_bt _ (by omega) (by omega)]
end H
end Go.Proofs.YtclmjmfcggkpaaaGreatDoor
namespace Go.Proofs.YtclmjmfcggkpaaaGreatDoor
open Go.RowKit Go.Proofs.YtclmjmfcggkpaaaGreatDoorW.PrintWords Go.Proofs.YtclmjmfcggkpaaaGreatDoorW.PrintLast Go.Proofs.YtclmjmfcggkpaaaGreatDoorW.PrintMore
namespace H
theorem noEsc_call (c : Int) (b : Bool) (w : World) (h : unres c = b) : Calls Tryz.prog 90 #[.int .u8 c] w fun e w' => e = .returned (.bool b) ∧ Below w.heap.size w w' :=
  (PX.smhttp_noEscape.calls c b w (by rw [noEsc_eq, h])).mono fun _ _ ⟨h1, h2⟩ => ⟨h1, h2.below⟩
theorem step_below {B : Nat} {w0 w w1 : World} (h : Below B w0 w) (hB : B ≤ w.heap.size) (k : Below w.heap.size w w1) : Below B w0 w1 := below_then h hB k
theorem hexSign_call (c : Int) (w : World) (h0 : 0 ≤ c) (h1 : c ≤ 255) : Calls Tryz.prog 93 #[.int .u8 c] w fun e w' => e = .returned (.string (strOfNums [37, hexd (c / 16), hexd (c % 16)])) ∧ Below w.heap.size w w' :=
  PX.smhttp_hexSign.calls c _ w (hexSign_eq c h0 h1)
theorem bytes_take (s : ByteArray) (k : Nat) (h : k < s.size) : (bytesOf s).take (k + 1) = (bytesOf s).take k ++ [bt s k] := by
  rw [List.take_succ_eq_append_getElem (by rw [bytesOf_length]; exact h)]
  congr 2
  have := rd_bytesOf s (k : Int)
  simp only [rd, Int.toNat_natCast] at this
  rw [← this, List.getD_eq_getElem?_getD, List.getElem?_eq_getElem (by rw [bytesOf_length]; exact h)]
  rfl
theorem bytesOf_strOf (xs : List Int) (h : ∀ x ∈ xs, 0 ≤ x ∧ x ≤ 255) : bytesOf (strOfNums xs) = xs := by
  unfold bytesOf
  rw [strOfNums_data, List.map_map]
  conv => rhs; rw [← List.map_id xs]
  apply List.map_congr_left
  intro x hx
  have := h x hx
  simp only [Function.comp, id, UInt8.toNat_ofNat']
  omega
theorem hexd_range (n : Int) (h0 : 0 ≤ n) (h1 : n < 16) : 0 ≤ hexd n ∧ hexd n ≤ 255 := by unfold hexd; split <;> omega
set_option maxHeartbeats 400000 in
set_option maxRecDepth 100000 in
theorem escPath (s : ByteArray) (sep : Bool) (w : World) (hs : 3 * s.size ≤ 140737488355328) :
    Calls Tryz.prog 57 #[.string s, .bool sep] w fun e w' => e = .returned (.string (strOfNums (escB (!sep) (bytesOf s)))) ∧ Below w.heap.size w w' := by
  go_enter Tryz.func57, Tryz.ntmps57
  go_wp2_with fail
  go_loopg [6] s.size (fun g v6 w' => ∃ k : Nat, k ≤ s.size ∧ v6 = .int .i64 k ∧ g = s.size - k ∧ Aside0 (Buf w' w.heap.size (escB (!sep) ((bytesOf s).take k))) ∧ Aside0 (Below w.heap.size w w'))
  case atStart => exact ⟨0, Nat.zero_le _, rfl, by omega, ⟨⟨_, by simpa using heap_new w _, own_nil _ _ _ _⟩⟩, ⟨below_alloc (Below.refl _ _) _⟩⟩
  case round =>
    obtain ⟨k, hk, rfl, hg, HB, HL⟩ := hrel
    have hwl : w.heap.size < wr.heap.size := HB.out.lt
    by_cases hlt : k < s.size
    · have hx : bt s k = ((s[k]'hlt).toNat : Int) := by simp [bt, hlt]
      have hr := bt_range s (k : Int)
      have hlen := escB_len (!sep) ((bytesOf s).take k)
      have htk : ((bytesOf s).take k).length ≤ k := List.length_take_le _ _
      have hsn := escB_snoc (!sep) ((bytesOf s).take k) (bt s k)
      have hts := bytes_take s k hlt
      rw [← hts] at hsn
      rw [hx] at hr hsn
      clear hx hts
      replace hsn := Aside0.mk hsn
      replace hg := Aside0.mk hg
      go_wp2_with fail
      generalize ((s[k]'hlt).toNat : Int) = c at *
      cases hu : unres c with
      | true =>
        refine (noEsc_call c true _ hu).mono ?_
        rintro e w2 ⟨rfl, hb2⟩
        replace HB := Aside0.mk (HB.out.below hb2); replace HL := Aside0.mk (step_below HL.out (by omega) hb2); have hwl2 := HB.out.lt; clear hb2
        replace hu := Aside0.mk hu
        go_wp2_with fail
        refine (wb _ (escB (!sep) ((bytesOf s).take k)) c _ HB.out (by omega)).mono ?_
        rintro e w1 ⟨rfl, hb1, hl1⟩
        replace HB := Aside0.mk hb1; replace HL := Aside0.mk (HL.out.trans hl1); clear hb1 hl1
        go_wp2_with fail
        go_roundg (s.size - (k + 1))
        case rel => exact ⟨k + 1, by omega, by go_num, by omega, ⟨by rw [hsn.out]; unfold esc1; rw [hu.out]; simpa using HB.out⟩, HL⟩
        case measure => have := hg.out; omega
      | false =>
        refine (noEsc_call c false _ hu).mono ?_
        rintro e w2 ⟨rfl, hb2⟩
        replace HB := Aside0.mk (HB.out.below hb2); replace HL := Aside0.mk (step_below HL.out (by omega) hb2); have hwl2 := HB.out.lt; clear hb2
        replace hu := Aside0.mk hu
        go_wp2_with fail
        · refine (wb _ (escB (!sep) ((bytesOf s).take k)) 47 _ HB.out (by omega)).mono ?_
          rintro e w1 ⟨rfl, hb1, hl1⟩
          replace HB := Aside0.mk hb1; replace HL := Aside0.mk (HL.out.trans hl1); clear hb1 hl1
          go_wp2_with fail
          go_roundg (s.size - (k + 1))
          case rel => exact ⟨k + 1, by omega, by go_num, by omega, ⟨by rw [hsn.out, show esc1 (!sep) c = [47] from by simp [esc1, show unres 47 = false from by decide, *]]; exact HB.out⟩, HL⟩
          case measure => have := hg.out; omega
        · refine (hexSign_call 47 _ (by omega) (by omega)).mono ?_
          rintro e w3 ⟨rfl, hb3⟩
          replace HB := Aside0.mk (HB.out.below hb3); replace HL := Aside0.mk (step_below HL.out (by omega) hb3); have hwl3 := HB.out.lt; clear hb3
          go_wp2_with fail
          refine (ws _ (escB (!sep) ((bytesOf s).take k)) _ _ HB.out ?hl).mono ?_
          case hl => rw [strOfNums_size]; simp; omega
          rintro e w1 ⟨rfl, hb1, hl1⟩
          rw [bytesOf_strOf _ (by decide)] at hb1
          replace HB := Aside0.mk hb1; replace HL := Aside0.mk (HL.out.trans hl1); clear hb1 hl1
          go_wp2_with fail
          go_roundg (s.size - (k + 1))
          case rel => exact ⟨k + 1, by omega, by go_num, by omega, ⟨by rw [hsn.out, show esc1 (!sep) c = [37, hexd 2, hexd 15] from by simp [esc1, show unres 47 = false from by decide, *]]; exact HB.out⟩, HL⟩
          case measure => have := hg.out; omega
        · refine (hexSign_call c _ (by omega) (by omega)).mono ?_
          rintro e w3 ⟨rfl, hb3⟩
          replace HB := Aside0.mk (HB.out.below hb3); replace HL := Aside0.mk (step_below HL.out (by omega) hb3); have hwl3 := HB.out.lt; clear hb3
          have h1 := hexd_range (c / 16) (by omega) (by omega)
          have h2 := hexd_range (c % 16) (by omega) (by omega)
          go_wp2_with fail
          refine (ws _ (escB (!sep) ((bytesOf s).take k)) (strOfNums [37, hexd (c / 16), hexd (c % 16)]) _ HB.out (by rw [strOfNums_size]; simp; omega)).mono ?_
          rintro e w1 ⟨rfl, hb1, hl1⟩
          rw [bytesOf_strOf _ (by simp; omega)] at hb1
          replace HB := Aside0.mk hb1; replace HL := Aside0.mk (HL.out.trans hl1); clear hb1 hl1
          go_wp2_with fail
          go_roundg (s.size - (k + 1))
          case rel => exact ⟨k + 1, by omega, by go_num, by omega, ⟨by rw [hsn.out, show esc1 (!sep) c = [37, hexd (c / 16), hexd (c % 16)] from by simp [esc1, hu.out, *]]; exact HB.out⟩, HL⟩
          case measure => have := hg.out; omega
    · rw [List.take_of_length_le (show (bytesOf s).length ≤ k by rw [bytesOf_length]; omega)] at HB
      go_wp2_with fail
      refine (bstr _ _ _ HB.out).mono ?_
      rintro e w' ⟨rfl, rfl⟩
      go_wp2
      go_ret
      exact ⟨rfl, HL.out⟩
end H
end Go.Proofs.YtclmjmfcggkpaaaGreatDoor
