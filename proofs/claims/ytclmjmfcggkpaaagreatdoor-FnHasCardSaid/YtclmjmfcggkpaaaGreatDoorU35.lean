import Derived.Test.YtclmjmfcggkpaaaGreatDoorU4
import Derived.Test.YtclmjmfcggkpaaaGreatDoorU9
import Derived.Test.YtclmjmfcggkpaaaGreatDoorU21
import Derived.Test.YtclmjmfcggkpaaaGreatDoorU13
namespace Go.Proofs.YtclmjmfcggkpaaaGreatDoor.PX
open Go.RowKit Go.Proofs.YtclmjmfcggkpaaaGreatDoorW.PrintWords Go.Proofs.YtclmjmfcggkpaaaGreatDoorW.PrintLast Go.Proofs.YtclmjmfcggkpaaaGreatDoorW.PrintMore
attribute [local go_sem] max2_int min2_int max_two min_two max_three min_three max_four min_four   -- for this text's walks alone
set_option linter.unusedVariables false
set_option linter.unusedSimpArgs false

/-! ### spec_SameHeaders: function 25 -/
end Go.Proofs.YtclmjmfcggkpaaaGreatDoor.PX
set_option linter.unusedVariables false
set_option linter.unusedSimpArgs false
namespace Go.Proofs.YtclmjmfcggkpaaaGreatDoor
open Go.RowKit Go.Proofs.YtclmjmfcggkpaaaGreatDoorW.PrintWords Go.Proofs.YtclmjmfcggkpaaaGreatDoorW.PrintLast Go.Proofs.YtclmjmfcggkpaaaGreatDoorW.PrintMore
open PX
namespace HH
/-! ### spec.SameHeaders: a list is the same as itself -/
theorem wr1' (k n : Nat) (h : k < n) (hn : n ≤ 9223372036854775807) : wrap64 ((k : Int) + 1) = ((k + 1 : Nat) : Int) := by unfold wrap64; omega
end HH
end Go.Proofs.YtclmjmfcggkpaaaGreatDoor
set_option linter.unusedVariables false
set_option linter.unusedSimpArgs false
namespace Go.Proofs.YtclmjmfcggkpaaaGreatDoor
open Go.RowKit Go.Proofs.YtclmjmfcggkpaaaGreatDoorW.PrintWords Go.Proofs.YtclmjmfcggkpaaaGreatDoorW.PrintLast Go.Proofs.YtclmjmfcggkpaaaGreatDoorW.PrintMore
open PX
namespace HH
open H
def sm1 (c : Int) : Int := if 65 ≤ c ∧ c ≤ 90 then c + 32 else c
def smallL (l : List Int) : List Int := l.map sm1
theorem freeC {w : World} {g : Nat} {zs : List Int} (h : BAt w g zs) (i : Nat) (hi : i < zs.length) : w.frozen? ⟨g, i, none⟩ = false := by
 obtain ⟨fr, h1, h2⟩ := h
 rcases h2 with rfl | rfl
 ·exact free_of h1 i
 ·simp [World.frozen?, h1]
  omega
theorem setC {w : World} {g : Nat} {zs : List Int} (h : BAt w g zs) (i : Nat) (v : Int) : BAt (w.setCell ⟨g, i, none⟩ (.int .u8 v)) g (zs.set i v) := by
 obtain ⟨fr, h1, h2⟩ := h
 refine ⟨fr, ?_, ?_⟩
 ·rw [heap_set h1]
  congr 2
  apply Array.toList_inj.1
  simp [nums, List.map_set]
 ·rw [List.length_set]; exact h2
theorem u8in (c : Int) (h0 : 0 ≤ c) (h1 : c ≤ 255) : IntKind.u8.wrap c = c := by
 simp [IntKind.wrap, IntKind.bits, IntKind.signed]
 omega
theorem take_at {zs l : List Int} {n k : Nat} (h : zs.take n = smallL (l.take k) ++ l.drop k) (hk : k < l.length) (hn : l.length = n) (hz : n ≤ zs.length) : zs.getD k 0 = l.getD k 0 := by
 have h1 : zs.getD k 0 = (zs.take n).getD k 0 := by
  rw [List.getD_eq_getElem?_getD, List.getD_eq_getElem?_getD, List.getElem?_take, if_pos (by omega)]
 rw [h1, h, List.getD_eq_getElem?_getD, List.getElem?_append_right (by simp [smallL]; omega)]
 simp [smallL]
 rw [show k + (k - min k l.length) = k from by omega]
theorem take_next {zs l : List Int} {n k : Nat} (h : zs.take n = smallL (l.take k) ++ l.drop k) (hk : k < l.length) (hn : l.length = n) (hz : n ≤ zs.length) :
 (zs.set k (sm1 (l.getD k 0))).take n = smallL (l.take (k + 1)) ++ l.drop (k + 1) := by
 rw [List.take_set, h, List.set_append_right _ _ (by simp [smallL]; omega), List.drop_eq_getElem_cons hk]
 have e : k - (smallL (l.take k)).length = 0 := by simp [smallL]; omega
 have e2 : l.getD k 0 = l[k] := by simp [List.getD_eq_getElem?_getD, hk]
 rw [e, List.set_cons_zero, List.take_succ_eq_append_getElem hk, e2]
 unfold smallL
 rw [List.map_append, List.append_assoc]
 rfl
theorem take_same {zs l : List Int} {n k : Nat} (h : zs.take n = smallL (l.take k) ++ l.drop k) (hk : k < l.length) (hs : sm1 (l.getD k 0) = l.getD k 0) :
 zs.take n = smallL (l.take (k + 1)) ++ l.drop (k + 1) := by
 rw [h, List.drop_eq_getElem_cons hk, List.take_succ_eq_append_getElem hk]
 have e : l.getD k 0 = l[k] := by simp [List.getD_eq_getElem?_getD, hk]
 rw [e] at hs
 unfold smallL
 rw [List.map_append, List.append_assoc]
 simp only [List.map_cons, List.map_nil, hs]
 rfl
set_option maxHeartbeats 1000000 in
set_option maxRecDepth 100000 in
theorem small_call (s : ByteArray) (w : World) (hs : s.size ≤ 2147483647) :
 Calls Tryz.prog 62 #[.string s] w fun e w' => e = .returned (.string (strOfNums (smallL (bytesOf s)))) ∧ Below w.heap.size w w' := by
 have hcv := fun (w : World) (s : ByteArray) => Lib.run_convert_string_bytes (P := Tryz.prog) w 9 104 5 s (u := .string) Tryz.underlying9 Tryz.underlying104 Tryz.underlying5
 go_enter Tryz.func62, Tryz.ntmps62
 go_wp2_with fail
 have hb1 := bytesWorld_below w s
 have ha1 := BAt.of_string w s
 rw [← strZs_length w s]
 have ht1 := strZs_take w s
 have hc1 : (strZs w s).length ≤ 9223372036854775807 := by rw [strZs_length]; have := grownCap_le_maxLen w s.size 0 5 (by unfold maxLen; omega); unfold maxLen at this; omega
 generalize strZs w s = z1 at *
 generalize Lib.bytesWorld w 5 s = w1 at *
 have hlz : s.size ≤ z1.length := by
  have := congrArg List.length ht1
  simp [bytesOf_length] at this; omega
 have hI : Aside0 (BAt w1 w.heap.size z1) := ⟨ha1⟩
 have hB : Aside0 (Below w.heap.size w w1) := ⟨hb1⟩
 have hZ : Aside0 (s.size ≤ z1.length) := ⟨hlz⟩
 have hT : Aside0 (z1.take s.size = smallL ((bytesOf s).take 0) ++ (bytesOf s).drop 0) := ⟨by simpa [smallL] using ht1⟩
 clear ha1 hb1 ht1
 go_loopg [10] s.size (fun g v10 w' => ∃ (k : Nat) (zs : List Int), k ≤ s.size ∧ v10 = .int .i64 k ∧ Aside0 (g = s.size - k) ∧ Aside0 (BAt w' w.heap.size zs) ∧ Aside0 (zs.length = z1.length) ∧ Aside0 (zs.take s.size = smallL ((bytesOf s).take k) ++ (bytesOf s).drop k) ∧ Aside0 (Below w.heap.size w w'))
 case atStart => exact ⟨0, z1, Nat.zero_le _, rfl, ⟨by omega⟩, hI, ⟨rfl⟩, hT, hB⟩
 case round =>
  clear hI hT hB
  obtain ⟨k, zs, hk, rfl, hg, hI, hzl, hT, hB⟩ := hrel
  rcases Nat.lt_or_ge k s.size with hlt | hge
  ·have hx := hI.out.cell k (by have := hzl.out; omega)
   rw [take_at hT.out (by rw [bytesOf_length]; exact hlt) (bytesOf_length s) (by have := hzl.out; omega)] at hx
   have hfz := freeC hI.out k (by have := hzl.out; omega)
   have hrg := bytesOf_range s ((bytesOf s).getD k 0) (by rw [List.getD_eq_getElem?_getD, List.getElem?_eq_getElem (by rw [bytesOf_length]; exact hlt)]; exact List.getElem_mem _)
   have hkb : k < (bytesOf s).length := by rw [bytesOf_length]; exact hlt
   have hkz : k ≤ z1.length := by omega
   generalize hc : (bytesOf s).getD k 0 = c at *
   by_cases hu : 65 ≤ c ∧ c ≤ 90
   ·have g1 : decide (65 ≤ c) = true := decide_eq_true hu.1
    have g2 : decide (c ≤ 90) = true := decide_eq_true hu.2
    have w1 : IntKind.u8.wrap (c + 97) = c + 97 := u8in _ (by omega) (by omega)
    have w2 : IntKind.u8.wrap (c + 97 - 65) = c + 97 - 65 := u8in _ (by omega) (by omega)
    have hT2 : Aside0 ((zs.set k (c + 32)).take s.size = smallL ((bytesOf s).take (k + 1)) ++ (bytesOf s).drop (k + 1)) := ⟨by
     have := take_next hT.out hkb (bytesOf_length s) (by have := hzl.out; omega)
     rw [hc, sm1, if_pos hu] at this
     exact this⟩
    replace hc := Aside0.mk hc
    go_wp2
    go_roundg (s.size - (k + 1))
    case measure => have := hg.out; omega
    case rel => exact ⟨k + 1, zs.set k (c + 32), by omega, by go_num, ⟨rfl⟩, ⟨by rw [show c + 32 = c + 97 - 65 from by omega]; exact setC hI.out k _⟩, ⟨by rw [List.length_set]; exact hzl.out⟩, hT2, ⟨hB.out.setCell (Nat.le_refl _) _⟩⟩
   ·have hT2 : Aside0 (zs.take s.size = smallL ((bytesOf s).take (k + 1)) ++ (bytesOf s).drop (k + 1)) := ⟨take_same hT.out hkb (by rw [hc, sm1, if_neg hu])⟩
    replace hc := Aside0.mk hc
    have hnu : Aside0 (¬ (65 ≤ c ∧ c ≤ 90)) := ⟨hu⟩
    clear hu
    have rel : ∀ g' : Nat, Aside0 (g' = s.size - (k + 1)) → ∃ (k' : Nat) (zs' : List Int), k' ≤ s.size ∧ Value.int .i64 ((k : Int) + 1) = .int .i64 k' ∧ Aside0 (g' = s.size - k') ∧ Aside0 (BAt wr w.heap.size zs') ∧ Aside0 (zs'.length = z1.length) ∧ Aside0 (zs'.take s.size = smallL ((bytesOf s).take k') ++ (bytesOf s).drop k') ∧ Aside0 (Below w.heap.size w wr) :=
     fun g' hg' => ⟨k + 1, zs, by omega, by go_num, hg', hI, hzl, hT2, hB⟩
    by_cases h65 : 65 ≤ c
    ·have g1 : decide (65 ≤ c) = true := decide_eq_true h65
     have g2 : decide (c ≤ 90) = false := decide_eq_false (fun h => hnu.out ⟨h65, h⟩)
     go_wp2
     go_roundg (s.size - (k + 1))
     case measure => have := hg.out; omega
     case rel => exact ⟨k + 1, zs, by omega, by go_num, ⟨rfl⟩, hI, hzl, hT2, hB⟩
    ·have g1 : decide (65 ≤ c) = false := decide_eq_false h65
     go_wp2
     go_roundg (s.size - (k + 1))
     case measure => have := hg.out; omega
     case rel => exact ⟨k + 1, zs, by omega, by go_num, ⟨rfl⟩, hI, hzl, hT2, hB⟩
  ·obtain rfl : k = s.size := by omega
   have hcs := hI.out.str (P := Tryz.prog) (n := s.size) (c := z1.length) (by have := hzl.out; have := hZ.out; omega) (src := 104) (dst := 9) Tryz.underlying104 Tryz.underlying5 Tryz.underlying9
   rw [hT.out, List.drop_of_length_le (by rw [bytesOf_length]; exact Nat.le_refl _), List.take_of_length_le (by rw [bytesOf_length]; exact Nat.le_refl _), List.append_nil] at hcs
   go_wp2
   go_ret
   exact ⟨rfl, hB.out⟩
end HH
namespace PX
def spec_small.f (a0 : ByteArray) : Option ByteArray := if a0.size ≤ 2147483647 then some (strOfNums (HH.smallL (bytesOf a0))) else none
theorem spec_small.calls (a0 : ByteArray) (r : ByteArray) (w : World) (h : spec_small.f a0 = some r) :
 Calls Tryz.prog 62 #[.string a0] w fun e w' => e = .returned (.string r) ∧ Below w.heap.size w w' := by
 unfold spec_small.f at h
 split at h
 ·rename_i hs
  obtain rfl := Option.some.inj h
  exact HH.small_call a0 w hs
 ·cases h
end PX
end Go.Proofs.YtclmjmfcggkpaaaGreatDoor
