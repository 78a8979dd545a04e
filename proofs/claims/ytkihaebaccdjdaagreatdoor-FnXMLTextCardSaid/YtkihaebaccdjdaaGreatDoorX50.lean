import Derived.Test.YtkihaebaccdjdaaGreatDoorX28
import Derived.Test.YtkihaebaccdjdaaGreatDoorX32
import Derived.Test.YtkihaebaccdjdaaGreatDoorX9
import Derived.Test.YtkihaebaccdjdaaGreatDoorX5
import Derived.Test.YtkihaebaccdjdaaGreatDoorX6
set_option linter.unusedVariables false
set_option linter.unusedSimpArgs false
namespace Go.Proofs.YtkihaebaccdjdaaGreatDoor
open Go.RowKit Go.Proofs.YtkihaebaccdjdaaGreatDoorW.PrintWords Go.Proofs.YtkihaebaccdjdaaGreatDoorW.PrintLast Go.Proofs.YtkihaebaccdjdaaGreatDoorW.PrintMore
namespace PX
/-! ### For the printer: areChars, IsUTF8, Text of a text -/
def spec_areChars.f (a0 : ByteArray) : Option Bool := if a0.size ≤ 2147483647 then some (H.runes H.charB (a0.size + 1) (bytesOf a0)) else none
theorem spec_areChars.calls (a0 : ByteArray) (r1 : Bool) (w : World) (h : spec_areChars.f a0 = some r1) :
 Calls Tryz.prog 41 #[.string a0] w fun e w' => e = .returned (.bool r1) ∧ Below w.heap.size w w' := by
 unfold spec_areChars.f at h
 split at h
 ·rename_i hs
  obtain rfl := Option.some.inj h
  exact H.areC a0 w hs
 ·cases h
def spec_IsUTF8.f (a0 : ByteArray) : Option Bool := if a0.size ≤ 2147483647 then some (H.runes (fun _ => true) (a0.size + 1) (bytesOf a0)) else none
def spec_Text.f (a0 : Int) (a1 : ByteArray) (a2 : Int) : Option ByteArray := if a0 = 0 then some a1 else none
end PX
end Go.Proofs.YtkihaebaccdjdaaGreatDoor
set_option linter.unusedVariables false
set_option linter.unusedSimpArgs false
namespace Go.Proofs.YtkihaebaccdjdaaGreatDoor
open Go.RowKit Go.Proofs.YtkihaebaccdjdaaGreatDoorW.PrintWords Go.Proofs.YtkihaebaccdjdaaGreatDoorW.PrintLast Go.Proofs.YtkihaebaccdjdaaGreatDoorW.PrintMore
open PX
namespace HH
open H
theorem bytesOf_range (s : ByteArray) (x : Int) (hx : x ∈ bytesOf s) : 0 ≤ x ∧ x ≤ 255 := by
 unfold bytesOf at hx
 obtain ⟨u, _, rfl⟩ := List.mem_map.1 hx
 have := u.toNat_lt
 omega
def sm1 (c : Int) : Int := if 65 ≤ c ∧ c ≤ 90 then c + 32 else c
def smallL (l : List Int) : List Int := l.map sm1
theorem freeC {w : World} {g : Nat} {zs : List Int} (h : BAt w g zs) (i : Nat) (hi : i < zs.length) : w.frozen? ⟨g, i, none⟩ = false := by
 obtain ⟨fr, h1, h2⟩ := h
 rcases h2 with rfl | rfl
 ·exact free_of h1 i
 ·simp [World.frozen?, h1]
  omega
theorem setC {w : World} {g : Nat} {zs : List Int} (h : BAt w g zs) (i : Nat) (v : Int) : BAt (w.setCell ⟨g, i, none⟩ (.int .u8 v)) g (zs.set i v) := by
 obtain ⟨fr, h1, h2⟩ := h
 refine ⟨fr, ?_, ?_⟩
 ·rw [heap_set h1]
  congr 2
  apply Array.toList_inj.1
  simp [nums, List.map_set]
 ·rw [List.length_set]; exact h2
theorem u8in (c : Int) (h0 : 0 ≤ c) (h1 : c ≤ 255) : IntKind.u8.wrap c = c := by
 simp [IntKind.wrap, IntKind.bits, IntKind.signed]
 omega
theorem take_at {zs l : List Int} {n k : Nat} (h : zs.take n = smallL (l.take k) ++ l.drop k) (hk : k < l.length) (hn : l.length = n) (hz : n ≤ zs.length) : zs.getD k 0 = l.getD k 0 := by
 have h1 : zs.getD k 0 = (zs.take n).getD k 0 := by
  rw [List.getD_eq_getElem?_getD, List.getD_eq_getElem?_getD, List.getElem?_take, if_pos (by omega)]
 rw [h1, h, List.getD_eq_getElem?_getD, List.getElem?_append_right (by simp [smallL]; omega)]
 simp [smallL]
 rw [show k + (k - min k l.length) = k from by omega]
theorem take_next {zs l : List Int} {n k : Nat} (h : zs.take n = smallL (l.take k) ++ l.drop k) (hk : k < l.length) (hn : l.length = n) (hz : n ≤ zs.length) :
 (zs.set k (sm1 (l.getD k 0))).take n = smallL (l.take (k + 1)) ++ l.drop (k + 1) := by
 rw [List.take_set, h, List.set_append_right _ _ (by simp [smallL]; omega), List.drop_eq_getElem_cons hk]
 have e : k - (smallL (l.take k)).length = 0 := by simp [smallL]; omega
 have e2 : l.getD k 0 = l[k] := by simp [List.getD_eq_getElem?_getD, hk]
 rw [e, List.set_cons_zero, List.take_succ_eq_append_getElem hk, e2]
 unfold smallL
 rw [List.map_append, List.append_assoc]
 rfl
theorem take_same {zs l : List Int} {n k : Nat} (h : zs.take n = smallL (l.take k) ++ l.drop k) (hk : k < l.length) (hs : sm1 (l.getD k 0) = l.getD k 0) :
 zs.take n = smallL (l.take (k + 1)) ++ l.drop (k + 1) := by
 rw [h, List.drop_eq_getElem_cons hk, List.take_succ_eq_append_getElem hk]
 have e : l.getD k 0 = l[k] := by simp [List.getD_eq_getElem?_getD, hk]
 rw [e] at hs
 unfold smallL
 rw [List.map_append, List.append_assoc]
 simp only [List.map_cons, List.map_nil, hs]
 rfl
set_option maxHeartbeats 1000000 in
set_option maxRecDepth 100000 in
theorem small_call (s : ByteArray) (w : World) (hs : s.size ≤ 2147483647) :
 Calls Tryz.prog 59 #[.string s] w fun e w' => e = .returned (.string (strOfNums (smallL (bytesOf s)))) ∧ Below w.heap.size w w' := by
 have hcv := fun (w : World) (s : ByteArray) => Lib.run_convert_string_bytes (P := Tryz.prog) w 9 22 5 s (u := .string) Tryz.underlying9 Tryz.underlying22 Tryz.underlying5
 go_enter Tryz.func59, Tryz.ntmps59
 go_wp2_with fail
 have hb1 := bytesWorld_below w s
 have ha1 := BAt.of_string w s
 rw [← strZs_length w s]
 have ht1 := strZs_take w s
 have hc1 : (strZs w s).length ≤ 9223372036854775807 := by rw [strZs_length]; have := grownCap_le_maxLen w s.size 0 5 (by unfold maxLen; omega); unfold maxLen at this; omega
 generalize strZs w s = z1 at *
 generalize Lib.bytesWorld w 5 s = w1 at *
 have hlz : s.size ≤ z1.length := by
  have := congrArg List.length ht1
  simp [bytesOf_length] at this; omega
 have hI : Aside0 (BAt w1 w.heap.size z1) := ⟨ha1⟩
 have hB : Aside0 (Below w.heap.size w w1) := ⟨hb1⟩
 have hZ : Aside0 (s.size ≤ z1.length) := ⟨hlz⟩
 have hT : Aside0 (z1.take s.size = smallL ((bytesOf s).take 0) ++ (bytesOf s).drop 0) := ⟨by simpa [smallL] using ht1⟩
 clear ha1 hb1 ht1
 go_loopg [10] s.size (fun g v10 w' => ∃ (k : Nat) (zs : List Int), k ≤ s.size ∧ v10 = .int .i64 k ∧ Aside0 (g = s.size - k) ∧ Aside0 (BAt w' w.heap.size zs) ∧ Aside0 (zs.length = z1.length) ∧ Aside0 (zs.take s.size = smallL ((bytesOf s).take k) ++ (bytesOf s).drop k) ∧ Aside0 (Below w.heap.size w w'))
 case atStart => exact ⟨0, z1, Nat.zero_le _, rfl, ⟨by omega⟩, hI, ⟨rfl⟩, hT, hB⟩
 case round =>
  clear hI hT hB
  obtain ⟨k, zs, hk, rfl, hg, hI, hzl, hT, hB⟩ := hrel
  rcases Nat.lt_or_ge k s.size with hlt | hge
  ·have hx := hI.out.cell k (by have := hzl.out; omega)
   rw [take_at hT.out (by rw [bytesOf_length]; exact hlt) (bytesOf_length s) (by have := hzl.out; omega)] at hx
   have hfz := freeC hI.out k (by have := hzl.out; omega)
   have hrg := bytesOf_range s ((bytesOf s).getD k 0) (by rw [List.getD_eq_getElem?_getD, List.getElem?_eq_getElem (by rw [bytesOf_length]; exact hlt)]; exact List.getElem_mem _)
   have hkb : k < (bytesOf s).length := by rw [bytesOf_length]; exact hlt
   have hkz : k ≤ z1.length := by omega
   generalize hc : (bytesOf s).getD k 0 = c at *
   by_cases hu : 65 ≤ c ∧ c ≤ 90
   ·have g1 : decide (65 ≤ c) = true := decide_eq_true hu.1
    have g2 : decide (c ≤ 90) = true := decide_eq_true hu.2
    have w1 : IntKind.u8.wrap (c + 97) = c + 97 := u8in _ (by omega) (by omega)
    have w2 : IntKind.u8.wrap (c + 97 - 65) = c + 97 - 65 := u8in _ (by omega) (by omega)
    have hT2 : Aside0 ((zs.set k (c + 32)).take s.size = smallL ((bytesOf s).take (k + 1)) ++ (bytesOf s).drop (k + 1)) := ⟨by
     have := take_next hT.out hkb (bytesOf_length s) (by have := hzl.out; omega)
     rw [hc, sm1, if_pos hu] at this
     exact this⟩
    replace hc := Aside0.mk hc
    go_wp2
    go_roundg (s.size - (k + 1))
    case measure => have := hg.out; omega
    case rel => exact ⟨k + 1, zs.set k (c + 32), by omega, by go_num, ⟨rfl⟩, ⟨by rw [show c + 32 = c + 97 - 65 from by omega]; exact setC hI.out k _⟩, ⟨by rw [List.length_set]; exact hzl.out⟩, hT2, ⟨hB.out.setCell (Nat.le_refl _) _⟩⟩
   ·have hT2 : Aside0 (zs.take s.size = smallL ((bytesOf s).take (k + 1)) ++ (bytesOf s).drop (k + 1)) := ⟨take_same hT.out hkb (by rw [hc, sm1, if_neg hu])⟩
    replace hc := Aside0.mk hc
    have hnu : Aside0 (¬ (65 ≤ c ∧ c ≤ 90)) := ⟨hu⟩
    clear hu
    have rel : ∀ g' : Nat, Aside0 (g' = s.size - (k + 1)) → ∃ (k' : Nat) (zs' : List Int), k' ≤ s.size ∧ Value.int .i64 ((k : Int) + 1) = .int .i64 k' ∧ Aside0 (g' = s.size - k') ∧ Aside0 (BAt wr w.heap.size zs') ∧ Aside0 (zs'.length = z1.length) ∧ Aside0 (zs'.take s.size = smallL ((bytesOf s).take k') ++ (bytesOf s).drop k') ∧ Aside0 (Below w.heap.size w wr) :=
     fun g' hg' => ⟨k + 1, zs, by omega, by go_num, hg', hI, hzl, hT2, hB⟩
    by_cases h65 : 65 ≤ c
    ·have g1 : decide (65 ≤ c) = true := decide_eq_true h65
     have g2 : decide (c ≤ 90) = false := decide_eq_false (fun h => hnu.out ⟨h65, h⟩)
     go_wp2
     go_roundg (s.size - (k + 1))
     case measure => have := hg.out; omega
     case rel => exact ⟨k + 1, zs, by omega, by go_num, ⟨rfl⟩, hI, hzl, hT2, hB⟩
    ·have g1 : decide (65 ≤ c) = false := decide_eq_false h65
     go_wp2
     go_roundg (s.size - (k + 1))
     case measure => have := hg.out; omega
     case rel => exact ⟨k + 1, zs, by omega, by go_num, ⟨rfl⟩, hI, hzl, hT2, hB⟩
  ·obtain rfl : k = s.size := by omega
   have hcs := hI.out.str (P := Tryz.prog) (n := s.size) (c := z1.length) (by have := hzl.out; have := hZ.out; omega) (src := 22) (dst := 9) Tryz.underlying22 Tryz.underlying5 Tryz.underlying9
   rw [hT.out, List.drop_of_length_le (by rw [bytesOf_length]; exact Nat.le_refl _), List.take_of_length_le (by rw [bytesOf_length]; exact Nat.le_refl _), List.append_nil] at hcs
   go_wp2
   go_ret
   exact ⟨rfl, hB.out⟩
end HH
namespace PX
def spec_small.f (a0 : ByteArray) : Option ByteArray := if a0.size ≤ 2147483647 then some (strOfNums (HH.smallL (bytesOf a0))) else none
theorem spec_small.calls (a0 : ByteArray) (r : ByteArray) (w : World) (h : spec_small.f a0 = some r) :
 Calls Tryz.prog 59 #[.string a0] w fun e w' => e = .returned (.string r) ∧ Below w.heap.size w w' := by
 unfold spec_small.f at h
 split at h
 ·rename_i hs
  obtain rfl := Option.some.inj h
  exact HH.small_call a0 w hs
 ·cases h
end PX
end Go.Proofs.YtkihaebaccdjdaaGreatDoor
set_option linter.unusedVariables false
set_option linter.unusedSimpArgs false
namespace Go.Proofs.YtkihaebaccdjdaaGreatDoor
open Go.RowKit Go.Proofs.YtkihaebaccdjdaaGreatDoorW.PrintWords Go.Proofs.YtkihaebaccdjdaaGreatDoorW.PrintLast Go.Proofs.YtkihaebaccdjdaaGreatDoorW.PrintMore
open PX
namespace HH
open H
theorem take_nodup_step {α : Type} [DecidableEq α] (l : List α) (k : Nat) (h : k < l.length) (h1 : (l.take k).Nodup) (h2 : ∀ j : Nat, j < k → l[j]? ≠ l[k]?) : (l.take (k + 1)).Nodup := by
 rw [List.take_succ_eq_append_getElem h, List.nodup_append]
 refine ⟨h1, by simp, ?_⟩
 intro a ha b hb
 obtain rfl : b = l[k] := by simpa using hb
 rintro rfl
 obtain ⟨j, hj, e⟩ := List.mem_iff_getElem.1 ha
 simp only [List.length_take] at hj
 refine h2 j (by omega) ?_
 rw [List.getElem?_eq_getElem h, ← e, List.getElem_take, List.getElem?_eq_getElem]
set_option maxHeartbeats 400000 in
set_option maxRecDepth 100000 in
theorem unlike_call (A0 : Option Addr) (c0 : Nat) (l : List ByteArray) (w : World) (hr : Kd.C Kd.string w A0 l.length l) (hc : l.length ≤ c0) :
 Calls Tryz.prog 60 #[.slice A0 l.length c0] w fun e w' => e = .returned (.bool (decide l.Nodup)) ∧ Drawn0 w w' := by
 have hl : l.length ≤ 9223372036854775807 := hr.2.1
 have HR := Aside0.mk hr
 clear hr
 go_enter Tryz.func60, Tryz.ntmps60
 go_wp2
 go_loopg [9] l.length (fun g v9 w' => ∃ k : Nat, k ≤ l.length ∧ v9 = .int .i64 k ∧ Aside0 (g = l.length - k) ∧ Aside0 (l.take k).Nodup ∧ Aside0 (w' = w))
 case atStart => exact ⟨0, Nat.zero_le _, rfl, ⟨by omega⟩, ⟨by simp⟩, ⟨rfl⟩⟩
 case round =>
  obtain ⟨k, hk, rfl, hg, hn, hw⟩ := hrel
  obtain rfl := hw.out
  clear hw
  rcases Nat.lt_or_ge k l.length with hlt | hge
  ·obtain ⟨ad, hA, hx⟩ := Kd.at_string HR.out (k : Int) (by omega) (by omega)
   subst hA
   simp only [Int.toNat_natCast] at hx
   have hkc : k ≤ c0 := by omega
   go_wp2_with fail
   have hek : l[k]? = some (rdOf ByteArray.empty l (k : Int)) := by simp [rdOf, List.getElem?_eq_getElem hlt, hlt]
   generalize rdOf ByteArray.empty l (k : Int) = a at *
   replace hek := Aside0.mk hek
   go_loopg [18] k (fun g v18 w' => ∃ j : Nat, j ≤ k ∧ v18 = .int .i64 j ∧ Aside0 (g = k - j) ∧ Aside0 (∀ m : Nat, m < j → l[m]? ≠ l[k]?) ∧ Aside0 (w' = wr))
   case atStart => exact ⟨0, Nat.zero_le _, rfl, ⟨by omega⟩, ⟨fun m hm => by omega⟩, ⟨rfl⟩⟩
   case round =>
    obtain ⟨j, hj, rfl, hg2, hno, hw⟩ := hrel
    have hw := hw.out
    subst hw
    rcases Nat.lt_or_ge j k with hjlt | hjge
    ·obtain ⟨ad', hA, hy⟩ := Kd.at_string HR.out (j : Int) (by omega) (by omega)
     cases hA
     simp only [Int.toNat_natCast] at hy
     have hej : l[j]? = some (rdOf ByteArray.empty l (j : Int)) := by simp [rdOf, List.getElem?_eq_getElem (show j < l.length by omega), show j < l.length by omega]
     generalize rdOf ByteArray.empty l (j : Int) = b at *
     replace hej := Aside0.mk hej
     by_cases e : b = a
     ·have hnn : decide l.Nodup = false := decide_eq_false (fun hd => by
       have h3 := (List.pairwise_iff_getElem.1 hd) j k (by omega) hlt hjlt
       have h1 := hej.out
       have h2 := hek.out
       rw [List.getElem?_eq_getElem (show j < l.length by omega)] at h1
       rw [List.getElem?_eq_getElem hlt] at h2
       injection h1 with h1
       injection h2 with h2
       exact h3 (by rw [h1, h2, e]))
      subst e
      clear hx
      go_wp2
      go_ret
      exact ⟨rfl, Drawn0.refl _⟩
     ·have e1 : (b.toList == a.toList) = false := by
       rw [beq_eq_false_iff_ne, Ne, ByteArray.toList_eq, ByteArray.toList_eq]
       intro h
       exact e (by cases a; cases b; congr 1; exact Array.ext' h)
      have hno' : Aside0 (∀ m : Nat, m < j + 1 → l[m]? ≠ l[k]?) := ⟨fun m hm => by
       rcases Nat.lt_or_ge m j with h | h
       ·exact hno.out m h
       ·obtain rfl : m = j := by omega
        rw [hej.out, hek.out]
        exact fun h => e (Option.some.inj h)⟩
      go_wp2
      go_roundg (k - (j + 1))
      case measure => have := hg2.out; omega
      case rel => exact ⟨j + 1, by omega, by go_num, ⟨rfl⟩, hno', ⟨rfl⟩⟩
    ·obtain rfl : j = k := by omega
     have hn' : Aside0 (l.take (j + 1)).Nodup := ⟨take_nodup_step l j hlt hn.out hno.out⟩
     go_wp2
     go_roundg (l.length - (j + 1))
     case measure => have := hg.out; omega
     case rel => exact ⟨j + 1, by omega, by go_num, ⟨rfl⟩, hn', ⟨rfl⟩⟩
  ·obtain rfl : k = l.length := by omega
   rw [List.take_length] at hn
   go_wp2
   go_ret
   exact ⟨by rw [decide_eq_true hn.out]; rfl, Drawn0.refl _⟩
end HH
namespace PX
def spec_areUnlike.f (k : Nat) (l0 : List ByteArray) : Option Bool := some (decide l0.Nodup)
theorem spec_areUnlike.calls (k : Nat) (A0 : Option Addr) (c0 : Nat) (l0 : List ByteArray) (r : Bool) (w : World) (hr0 : Kd.C Kd.string w A0 l0.length l0) (hc0 : l0.length ≤ c0) (h : spec_areUnlike.f k l0 = some r) :
 Calls Tryz.prog 60 #[.slice A0 l0.length c0] w fun e w' => e = .returned (.bool r) ∧ Drawn0 w w' := by
 obtain rfl := Option.some.inj h
 exact HH.unlike_call A0 c0 l0 w hr0 hc0
end PX
end Go.Proofs.YtkihaebaccdjdaaGreatDoor
