import Derived.Test.YtclmjmfcggkpaaaGreatDoorU8
import Derived.Test.YtclmjmfcggkpaaaGreatDoorU11
import Derived.StillTailTactics
import Derived.Test.YtclmjmfcggkpaaaGreatDoorU4
namespace Go.Proofs.YtclmjmfcggkpaaaGreatDoor
open Go.RowKit Go.Proofs.YtclmjmfcggkpaaaGreatDoorW.PrintWords Go.Proofs.YtclmjmfcggkpaaaGreatDoorW.PrintLast Go.Proofs.YtclmjmfcggkpaaaGreatDoorW.PrintMore
namespace H
/-! ### Taking escapes away, plainly -/
def unh (c : Int) : Int := 9 * (c / 64) + c % 16
def unescL : List Int → Option (List Int)
 | [] => some []
 | c :: r =>
   if c = 37 then
    match r with
    | a :: b :: r' => if hexB a && hexB b then (unescL r').map (fun u => (16 * unh a + unh b) :: u) else none
    | _ => none
   else (unescL r).map (fun u => c :: u)
theorem unescL_cons (c : Int) (r : List Int) : unescL (c :: r) = if c = 37 then (match r with | a :: b :: r' => if hexB a && hexB b then (unescL r').map (fun u => (16 * unh a + unh b) :: u) else none | _ => none) else (unescL r).map (fun u => c :: u) := by
 rw [unescL.eq_def]
theorem unescL_pct {l u : List Int} {k : Nat} (h : unescL (l.drop k) = some u) (hk : k < l.length) (hc : l[k] = 37) :
 ∃ (h2 : k + 2 < l.length) (u' : List Int), hexB (l[k + 1]'(by omega)) = true ∧ hexB (l[k + 2]) = true ∧ unescL (l.drop (k + 3)) = some u' ∧ u = (16 * unh (l[k + 1]'(by omega)) + unh l[k + 2]) :: u' := by
 rw [List.drop_eq_getElem_cons hk, unescL_cons, if_pos hc] at h
 by_cases h2 : k + 2 < l.length
 ·rw [List.drop_eq_getElem_cons (show k + 1 < l.length by omega), List.drop_eq_getElem_cons (show k + 1 + 1 < l.length by omega)] at h
  simp only at h
  split at h
  ·rename_i hx
   rw [Bool.and_eq_true] at hx
   obtain ⟨u', h', rfl⟩ := Option.map_eq_some_iff.1 h
   exact ⟨h2, u', hx.1, hx.2, h', rfl⟩
  ·cases h
 ·exfalso
  by_cases h1 : k + 1 < l.length
  ·rw [List.drop_eq_getElem_cons h1, List.drop_eq_nil_of_le (show l.length ≤ k + 1 + 1 by omega)] at h
   cases h
  ·rw [List.drop_eq_nil_of_le (by omega)] at h
   cases h
theorem unescL_plain {l u : List Int} {k : Nat} (h : unescL (l.drop k) = some u) (hk : k < l.length) (hc : l[k] ≠ 37) :
 ∃ u' : List Int, unescL (l.drop (k + 1)) = some u' ∧ u = l[k] :: u' := by
 rw [List.drop_eq_getElem_cons hk, unescL_cons, if_neg hc] at h
 obtain ⟨u', h', rfl⟩ := Option.map_eq_some_iff.1 h
 exact ⟨u', h', rfl⟩
theorem unescL_none (l : List Int) (h : ∀ c ∈ l, c ≠ 37) : unescL l = some l := by
 induction l with
 | nil => rfl
 | cons c r ih =>
   rw [unescL_cons, if_neg (h c (by simp)), ih (fun x hx => h x (by simp [hx]))]
   rfl
theorem unh_hex (c : Int) (h0 : 0 ≤ c) (h1 : c ≤ 255) (h : hexB c = true) : 0 ≤ unh c ∧ unh c ≤ 15 := by
 have : ∀ n : Nat, n < 256 → hexB (n : Int) = true → 0 ≤ unh (n : Int) ∧ unh (n : Int) ≤ 15 := by decide +kernel
 obtain ⟨n, rfl⟩ := Int.eq_ofNat_of_zero_le h0
 exact this n (by omega) h
theorem unescL_range : ∀ (n : Nat) (l u : List Int), l.length ≤ n → (∀ c ∈ l, 0 ≤ c ∧ c ≤ 255) → unescL l = some u → (∀ c ∈ u, 0 ≤ c ∧ c ≤ 255) ∧ u.length ≤ l.length := by
 intro n
 induction n with
 | zero =>
   intro l u hl _ h
   obtain rfl : l = [] := List.eq_nil_of_length_eq_zero (by omega)
   cases h
   simp
 | succ n ih =>
   intro l u hl hr h
   cases l with
   | nil => cases h; simp
   | cons c r =>
     rw [unescL_cons] at h
     split at h
     ·split at h
      ·rename_i a b r' 
       split at h
       ·rename_i hx
        rw [Bool.and_eq_true] at hx
        obtain ⟨u', h', rfl⟩ := Option.map_eq_some_iff.1 h
        simp only [List.length_cons] at hl ⊢
        have hi := ih r' u' (by omega) (fun x hx => hr x (by simp [hx])) h'
        have ha := hr a (by simp)
        have hb := hr b (by simp)
        have h1 := unh_hex a ha.1 ha.2 hx.1
        have h2 := unh_hex b hb.1 hb.2 hx.2
        refine ⟨fun x hxm => ?_, by omega⟩
        rcases List.mem_cons.1 hxm with rfl | hm
        ·omega
        ·exact hi.1 x hm
       ·cases h
      ·cases h
     ·obtain ⟨u', h', rfl⟩ := Option.map_eq_some_iff.1 h
      simp only [List.length_cons] at hl ⊢
      have hi := ih r u' (by omega) (fun x hx => hr x (by simp [hx])) h'
      refine ⟨fun x hxm => ?_, by omega⟩
      rcases List.mem_cons.1 hxm with rfl | hm
      ·exact hr _ (by simp)
      ·exact hi.1 x hm
theorem esc_ok (l : List Int) (h : ∀ c ∈ l, 0 ≤ c ∧ c ≤ 255) (sl : Bool) : ∀ c ∈ escB sl l, pathOk c = true ∧ 0 ≤ c ∧ c ≤ 255 := by
 intro c hc
 rw [escB, List.mem_flatMap] at hc
 obtain ⟨x, hx, hc⟩ := hc
 have hr := h x hx
 have hd : ∀ m : Nat, m < 16 → pathOk (hexd (m : Int)) = true ∧ 0 ≤ hexd (m : Int) ∧ hexd (m : Int) ≤ 255 := by decide +kernel
 have hd' : ∀ m : Int, 0 ≤ m → m < 16 → pathOk (hexd m) = true ∧ 0 ≤ hexd m ∧ hexd m ≤ 255 := by
  intro m h0 h1
  obtain ⟨k, rfl⟩ := Int.eq_ofNat_of_zero_le h0
  exact hd k (by omega)
 unfold esc1 at hc
 split at hc
 ·rename_i hu
  simp only [List.mem_singleton] at hc
  subst hc
  refine ⟨?_, hr⟩
  unfold pathOk
  rw [Bool.or_eq_true] at hu
  rcases hu with hu | hu
  ·rw [hu]; rfl
  ·rw [Bool.and_eq_true] at hu; rw [hu.2]; simp
 ·simp only [List.mem_cons, List.not_mem_nil, or_false] at hc
  rcases hc with rfl | rfl | rfl
  ·decide
  ·exact hd' _ (by omega) (by omega)
  ·exact hd' _ (by omega) (by omega)
end H
end Go.Proofs.YtclmjmfcggkpaaaGreatDoor
namespace Go.Proofs.YtclmjmfcggkpaaaGreatDoor
open Go.RowKit Go.Proofs.YtclmjmfcggkpaaaGreatDoorW.PrintWords Go.Proofs.YtclmjmfcggkpaaaGreatDoorW.PrintLast Go.Proofs.YtclmjmfcggkpaaaGreatDoorW.PrintMore
namespace H
set_option maxHeartbeats 400000 in
set_option maxRecDepth 100000 in
theorem unhex_call (c : Int) (w : World) (h0 : 0 ≤ c) (h1 : c ≤ 255) :
 Calls Tryz.prog 135 #[.int .u8 c] w fun e w' => e = .returned (.int .u8 (unh c)) ∧ w' = w := by
 go_enter Tryz.func135, Tryz.ntmps135
 go_wp2
 go_ret
 exact ⟨rfl, rfl⟩
theorem by_get (s : ByteArray) (k : Nat) (h : k < s.size) : (bytesOf s)[k]'(by rw [bytesOf_length]; exact h) = ((s[k]'h).toNat : Int) := by
 simp [bytesOf]; rfl
theorem strOf_bytesOf (s : ByteArray) : strOfNums (bytesOf s) = s := by
 apply ByteArray.ext
 apply Array.ext'
 rw [strOfNums_data, bytesOf, List.map_map]
 conv => rhs; rw [← List.map_id s.data.toList]
 apply List.map_congr_left
 intro x _
 simp
theorem bytesOf_range (s : ByteArray) (c : Int) (h : c ∈ bytesOf s) : 0 ≤ c ∧ c ≤ 255 := by
 unfold bytesOf at h
 obtain ⟨b, _, rfl⟩ := List.mem_map.1 h
 have := b.toNat_lt
 omega
theorem nums_cells (u : List Int) (h : ∀ c ∈ u, 0 ≤ c ∧ c ≤ 255) : nums .u8 u = Lib.byteCells (u.map fun n => UInt8.ofNat n.toNat) := by
 unfold nums Lib.byteCells
 rw [List.map_map]
 apply List.map_congr_left
 intro c hc
 have := h c hc
 simp only [Function.comp, UInt8.toNat_ofNat']
 congr 1
 omega
theorem or16 (x y : Int) (hx : 0 ≤ x ∧ x ≤ 15) (hy : 0 ≤ y ∧ y ≤ 15) : Go.bits .or .u8 (x * 16) y = 16 * x + y := by
 have : ∀ a : Nat, a < 16 → ∀ b : Nat, b < 16 → Go.bits .or .u8 ((a : Int) * 16) (b : Int) = 16 * (a : Int) + b := by decide +kernel
 obtain ⟨a, rfl⟩ := Int.eq_ofNat_of_zero_le hx.1
 obtain ⟨b, rfl⟩ := Int.eq_ofNat_of_zero_le hy.1
 exact this a (by omega) b (by omega)
theorem by_range (s : ByteArray) (k : Nat) (h : k < s.size) : 0 ≤ ((s[k]'h).toNat : Int) ∧ ((s[k]'h).toNat : Int) ≤ 255 := by
 have := (s[k]'h).toNat_lt; omega
set_option maxHeartbeats 1000000 in
set_option maxRecDepth 100000 in
theorem une_call (s : ByteArray) (u : List Int) (w : World) (hT : Tab w) (hs : s.size ≤ 140737488351232) (hu : unescL (bytesOf s) = some u) :
 Calls Tryz.prog 86 #[.string s, .int .u8 1] w fun e w' => e = .returned (.tuple #[.string (strOfNums u), .nilIface]) ∧ Below w.heap.size w w' := by
 replace hT := Aside0.mk hT
 replace hu := Aside0.mk hu
 go_enter Tryz.func86, Tryz.ntmps86
 go_wp2_with fail
 go_loop [0, 6, 7, 8] (fun v0 v6 v7 v8 => ∃ k n : Nat, v0 = .string s ∧ k ≤ s.size ∧ 3 * n ≤ k ∧ v8 = .int .i64 k ∧ v6 = .int .i64 n ∧ v7 = .bool false ∧ Aside0 (∃ u', unescL ((bytesOf s).drop k) = some u') ∧ Aside0 (n = 0 → ∀ c ∈ (bytesOf s).take k, c ≠ 37)) (fun _ _ _ v8 => s.size - (intOf v8).toNat)
 case atStart => exact ⟨0, 0, rfl, Nat.zero_le _, by omega, rfl, rfl, rfl, ⟨u, by simpa using hu.out⟩, ⟨fun _ c hc => by simp at hc⟩⟩
 case round =>
  obtain ⟨k, n, rfl, hk, hn, rfl, rfl, rfl, HU, HN⟩ := hrel
  by_cases hlt : k < s.size
  ·have hl : k < (bytesOf s).length := by rw [bytesOf_length]; exact hlt
   have hr := by_range s k hlt
   have hg := by_get s k hlt
   have hts := bytes_take s k hlt
   rw [show bt s k = ((s[k]'hlt).toNat : Int) from by simp [bt, hlt]] at hts
   by_cases h37 : ((s[k]'hlt).toNat : Int) = 37
   ·obtain ⟨u0, hu0⟩ := HU.out
    obtain ⟨h2, u', ha, hb, hd, _⟩ := unescL_pct hu0 hl (hg.trans h37)
    rw [bytesOf_length] at h2
    rw [by_get s (k + 1) (by omega)] at ha
    rw [by_get s (k + 2) (by omega)] at hb
    have ra := by_range s (k + 1) (by omega)
    have rb := by_range s (k + 2) (by omega)
    replace ha := Aside0.mk ha; replace hb := Aside0.mk hb; replace hd := Aside0.mk hd
    replace hg := Aside0.mk hg; replace hts := Aside0.mk hts; clear hu0
    go_wp2_with fail
    refine (ishex_call _ _ hT.out ra.1 ra.2).mono ?_
    rw [ha.out]
    rintro e w' ⟨rfl, rfl⟩
    go_wp2_with fail
    refine (ishex_call _ _ hT.out rb.1 rb.2).mono ?_
    rw [hb.out]
    rintro e w' ⟨rfl, rfl⟩
    go_wp2_with fail
    go_round
    case rel => exact ⟨k + 3, n + 1, rfl, by omega, by omega, by go_num, by go_num, rfl, ⟨u', hd.out⟩, ⟨fun h => by omega⟩⟩
    case measure => simp [intOf]; omega
   ·obtain ⟨u0, hu0⟩ := HU.out
    obtain ⟨u', hd, _⟩ := unescL_plain hu0 hl (by rw [hg]; exact h37)
    replace hd := Aside0.mk hd; clear hu0
    replace hg := Aside0.mk hg; replace hts := Aside0.mk hts
    go_wp2_with fail
    all_goals
     go_round
     case rel => exact ⟨k + 1, n, rfl, by omega, by omega, by go_num, rfl, rfl, ⟨u', hd.out⟩, ⟨fun h c hc => by
      rw [hts.out] at hc
      rcases List.mem_append.1 hc with hc | hc
      ·exact HN.out h c hc
      ·simp only [List.mem_singleton] at hc; subst hc; exact h37⟩⟩
     case measure => simp [intOf]; omega
  ·have hke : k = s.size := by omega
   by_cases h0 : n = 0
   ·have he : strOfNums u = s := by
     have h1 := unescL_none (bytesOf s) (fun c hc => HN.out h0 c (by rw [List.take_of_length_le (by rw [bytesOf_length]; omega)]; exact hc))
     have h2 := hu.out
     rw [h1] at h2
     injection h2 with h2
     rw [← h2]
     exact strOf_bytesOf s
    replace he := Aside0.mk he
    subst h0
    clear hke
    go_wp2
    go_ret2
    rw [he.out]
    exact ⟨rfl, Below.refl _ _⟩
   ·clear hke
    go_wp2_with fail
    obtain ⟨m, hm⟩ : ∃ m : Nat, (s.size : Int) - 2 * n = m := ⟨s.size - 2 * n, by omega⟩
    rw [hm]
    have hm2 : m ≤ s.size := by omega
    clear hm
    refine (Tryz.Builder_Grow_fresh w.heap.size w.heap.size m _ (Nat.le_refl _) (heap_new w _) (by simp) (by omega)).mono ?_
    rintro e w1 ⟨rfl, hsb, hbl⟩
    have HB := Aside0.mk (show SB w1 w.heap.size [] from hsb)
    have HL := Aside0.mk ((below_alloc (Below.refl _ _) _).trans hbl)
    clear hsb hbl
    go_wp2_with fail
    go_loopg [12] s.size (fun g v12 w' => ∃ (k : Nat) (acc u' : List Int), k ≤ s.size ∧ v12 = .int .i64 k ∧ g = s.size - k ∧ acc.length ≤ k ∧ Aside0 (unescL ((bytesOf s).drop k) = some u') ∧ Aside0 (acc ++ u' = u) ∧ Aside0 (SB w' w.heap.size acc) ∧ Aside0 (Below w.heap.size w w'))
    case atStart => exact ⟨0, [], u, Nat.zero_le _, rfl, by omega, by simp, ⟨by simpa using hu.out⟩, ⟨rfl⟩, HB, HL⟩
    case round =>
     obtain ⟨k, acc, u', hk, rfl, hg, ha, HU, HA, HB, HL⟩ := hrel
     replace hg := Aside0.mk hg
     by_cases hlt : k < s.size
     ·have hl : k < (bytesOf s).length := by rw [bytesOf_length]; exact hlt
      have hr := by_range s k hlt
      have hg2 := by_get s k hlt
      have hwl := HB.out.lt
      by_cases h37 : ((s[k]'hlt).toNat : Int) = 37
      ·obtain ⟨h2, u2, hxa, hxb, hd, hu2⟩ := unescL_pct HU.out hl (hg2.trans h37)
       rw [bytesOf_length] at h2
       rw [by_get s (k + 1) (by omega)] at hxa hu2
       rw [by_get s (k + 2) (by omega)] at hxb hu2
       have ra := by_range s (k + 1) (by omega)
       have rb := by_range s (k + 2) (by omega)
       have va := unh_hex _ ra.1 ra.2 hxa
       have vb := unh_hex _ rb.1 rb.2 hxb
       replace hxa := Aside0.mk hxa; replace hxb := Aside0.mk hxb; replace hd := Aside0.mk hd; replace hu2 := Aside0.mk hu2
       clear hg2
       go_wp2_with fail
       have hlen : acc.length + 1 ≤ 140737488355328 := by omega
       have hk3 : k + 3 ≤ s.size := by omega
       have hms : s.size - (k + 3) < s.size - k := by omega
       have hla : acc.length + 1 ≤ k + 3 := by omega
       have q1 : IntKind.i64.wrap ((k : Int) + 1) = (k : Int) + 1 := IntWalk.i64_in _ (by omega)
       have q2 : IntKind.i64.wrap ((k : Int) + 2) = (k : Int) + 2 := IntWalk.i64_in _ (by omega)
       have q3 : (0 : Int) ≤ (k : Int) + 1 ∧ (k : Int) + 1 < (s.size : Int) := by omega
       have q4 : (0 : Int) ≤ (k : Int) + 2 ∧ (k : Int) + 2 < (s.size : Int) := by omega
       have q5 : ((k : Int) + 1).toNat = k + 1 := by omega
       have q6 : ((k : Int) + 2).toNat = k + 2 := by omega
       refine wp_region_still_tail 12 (by kernel_rfl) (by kernel_rfl) ?_
       simp only [List.take_succ_cons, List.take_zero, List.drop_succ_cons, List.drop_zero]
       repeat still_step
       still_call (unhex_call _ _ ra.1 ra.2)
       repeat still_step
       still_call (unhex_call _ _ rb.1 rb.2)
       repeat still_step
       refine wpStill_nil ?_
       change wpList _ _ _ _ _ wr.drew
       replace HB := Aside0.mk (HB.out.below (Below.refl _ _).drew)
       replace HL := Aside0.mk HL.out.drew
       generalize wr.drew = w3 at *
       go_wp2_with fail
       rw [or16 _ _ va vb]
       refine (sbWB _ acc _ _ HB.out hlen).mono ?_
       rintro e w4 ⟨rfl, hb4, hl4⟩
       replace HB := Aside0.mk hb4; replace HL := Aside0.mk (HL.out.trans hl4); clear hb4 hl4
       go_wp2_with fail
       go_roundg (s.size - (k + 3))
       case rel => exact ⟨k + 3, _, u2, hk3, by go_num, rfl, by rw [List.length_append]; exact hla, hd, ⟨by rw [← HA.out, hu2.out]; simp⟩, HB, HL⟩
       case measure => rw [hg.out]; exact hms
      ·obtain ⟨u2, hd, hu2⟩ := unescL_plain HU.out hl (by rw [hg2]; exact h37)
       rw [hg2] at hu2
       replace hd := Aside0.mk hd; replace hu2 := Aside0.mk hu2
       clear hg2
       go_wp2_with fail
       all_goals
        refine (sbWB _ acc _ _ HB.out (by omega)).mono ?_
        rintro e w4 ⟨rfl, hb4, hl4⟩
        replace HB := Aside0.mk hb4; replace HL := Aside0.mk (HL.out.trans hl4); clear hb4 hl4
        go_wp2_with fail
        go_roundg (s.size - (k + 1))
        case rel => exact ⟨k + 1, _, u2, by omega, by go_num, rfl, by rw [List.length_append]; simp; omega, hd, ⟨by have e1 := HA.out; rw [hu2.out] at e1; rw [← e1, List.append_assoc]; first | rfl | (rw [show ((s[k]'hlt).toNat : Int) = 43 from beq_iff_eq.1 (by assumption)]; rfl)⟩, HB, HL⟩
        case measure => rw [hg.out]; omega
     ·have hnil : u' = [] := by
       have h1 := HU.out
       rw [List.drop_eq_nil_of_le (by rw [bytesOf_length]; omega)] at h1
       injection h1 with h1
       exact h1.symm
      have hau : acc = u := by have h1 := HA.out; rw [hnil, List.append_nil] at h1; exact h1
      rw [hau] at HB
      have hrg := (unescL_range _ _ _ (Nat.le_refl _) (fun c hc => bytesOf_range s c hc) hu.out).1
      have hcell := nums_cells u hrg
      have HB2 := HB.out
      unfold SB at HB2
      rw [hcell] at HB2
      replace HB2 := Aside0.mk HB2
      have hwl := HB.out.lt
      clear hnil hau hcell
      go_wp2_with fail
      refine (Tryz.Builder_String_any w.heap.size w.heap.size _ _ (.inr HB2.out) (by omega)).mono ?_
      rintro e w4 ⟨rfl, hb4⟩
      replace HL := Aside0.mk (HL.out.trans hb4); clear hb4
      go_wp2
      go_ret2
      exact ⟨rfl, HL.out⟩
end H
end Go.Proofs.YtclmjmfcggkpaaaGreatDoor
namespace Go.Proofs.YtclmjmfcggkpaaaGreatDoor
open Go.RowKit Go.Proofs.YtclmjmfcggkpaaaGreatDoorW.PrintWords Go.Proofs.YtclmjmfcggkpaaaGreatDoorW.PrintLast Go.Proofs.YtclmjmfcggkpaaaGreatDoorW.PrintMore
namespace H
set_option maxHeartbeats 400000 in
set_option maxRecDepth 100000 in
theorem ep_call (b : Nat) (path raw : ByteArray) (w : World) (hT : Tab w) (hp : w.cell? ⟨b, 4, none⟩ = some (.string path)) (hr : w.cell? ⟨b, 7, none⟩ = some (.string raw))
 (h0 : raw.toList ≠ []) (hs : raw.size ≤ 140737488351232) (hok : ∀ c ∈ bytesOf raw, pathOk c = true) (hu : unescL (bytesOf raw) = some (bytesOf path)) :
 Calls Tryz.prog 48 #[.pointer (some ⟨b, 0, none⟩)] w fun e w' => e = .returned (.string raw) ∧ Below w.heap.size w w' := by
 have h1 : raw.toList.isEmpty = false := by simpa using h0
 replace hu := Aside0.mk hu
 replace hT := Aside0.mk hT
 replace hok := Aside0.mk hok
 have hlb := World.block_lt_of_cell? w _ hp
 go_enter Tryz.func48, Tryz.ntmps48
 go_wp2_with fail
 refine (validEnc_call raw _ hT.out (by omega) hok.out).mono ?_
 rintro e w' ⟨rfl, rfl⟩
 go_wp2_with fail
 refine (une_call raw _ _ hT.out hs hu.out).mono ?_
 rw [strOf_bytesOf]
 rintro e w1 ⟨rfl, hb1⟩
 have hp1 := (hb1.cell (p := ⟨b, 4, none⟩) hlb).trans hp
 have hr1 := (hb1.cell (p := ⟨b, 7, none⟩) hlb).trans hr
 replace hb1 := Aside0.mk hb1
 go_wp2
 go_ret
 exact ⟨rfl, hb1.out⟩
end H
end Go.Proofs.YtclmjmfcggkpaaaGreatDoor
namespace Go.Proofs.YtclmjmfcggkpaaaGreatDoor.PX
open Go.RowKit Go.Proofs.YtclmjmfcggkpaaaGreatDoorW.PrintWords Go.Proofs.YtclmjmfcggkpaaaGreatDoorW.PrintLast Go.Proofs.YtclmjmfcggkpaaaGreatDoorW.PrintMore
attribute [local go_sem] max2_int min2_int max_two min_two max_three min_three max_four min_four   -- for this text's walks alone
set_option linter.unusedVariables false
set_option linter.unusedSimpArgs false

/-! ### smhttp_index: function 192 -/
def smhttp_index.l0 : Nat → ByteArray → ByteArray → Int → Option (Int)
 | 0, _, _, _ => none
 | k + 1, x0, x1, x5 => if (wrap64 (x5 + (x1.size : Int))) ≤ (x0.size : Int) then (if 0 ≤ x5 then (if x5 ≤ (wrap64 (x5 + (x1.size : Int))) then (if (x0.extract (x5 : Int).toNat ((wrap64 (x5 + (x1.size : Int))) : Int).toNat).toList = x1.toList then (some x5) else (smhttp_index.l0 k x0 x1 (wrap64 (x5 + 1)))) else (none)) else (none)) else (some (-1))
def smhttp_index.f (k : Nat) (a0 : ByteArray) (a1 : ByteArray) : Option (Int) := smhttp_index.l0 k a0 a1 0
set_option maxHeartbeats 8000000 in
set_option maxRecDepth 100000 in
theorem smhttp_index.calls (k : Nat) (a0 : ByteArray) (a1 : ByteArray) (r : Int) (w : World) (h : smhttp_index.f k a0 a1 = some r) :
 Calls Tryz.prog 192 #[.string a0, .string a1] w fun e w' => e = .returned (.int .i64 r) ∧ Drawn0 w w' := by
 have H : (smhttp_index.l0 k a0 a1 0) = some r := h
 clear h
 have H' := Aside0.mk H
 clear H
 go_enter Tryz.func192, Tryz.ntmps192
 go_wp2
 go_loopg [5] k (fun kq v5 w' => ∃ (x5_1 : Int), v5 = .int .i64 x5_1 ∧ Aside0 (smhttp_index.l0 kq a0 a1 x5_1 = some r) ∧ Aside0 (kq ≤ k) ∧ Drawn0 w w')
 case atStart => exact ⟨(0), (by first | rfl | (simp; done) | (simp [*]; done)), H', ⟨Nat.le_refl _⟩, by repeat (first | exact Drawn0.refl _ | apply Drawn0.step)⟩
 case round =>
  clear H'
  try clear c1
  try clear p2
  obtain ⟨x5_1, rfl, HA, HK1, ⟨m1, rfl⟩⟩ := hrel
  cases gk with
  | zero => exact absurd HA.out (by simp [smhttp_index.l0])
  | succ k1 =>
    have H := HA.out
    clear HA
    simp only [smhttp_index.l0] at H
    by_cases c3 : (wrap64 (x5_1 + (a1.size : Int))) ≤ (a0.size : Int)
    ·rw [if_pos c3] at H
     have c3b0 : decide ((wrap64 (x5_1 + (a1.size : Int))) ≤ (a0.size : Int)) = true := decide_eq_true c3
     clear c3
     by_cases c4 : 0 ≤ x5_1
     ·rw [if_pos c4] at H
      have c4b0 := eq_true c4
      have c4b1 : decide (0 ≤ x5_1) = true := decide_eq_true c4
      clear c4
      by_cases c5 : x5_1 ≤ (wrap64 (x5_1 + (a1.size : Int)))
      ·rw [if_pos c5] at H
       have c5b0 := eq_true c5
       have c5b1 : decide (x5_1 ≤ (wrap64 (x5_1 + (a1.size : Int)))) = true := decide_eq_true c5
       have c6b0 := eq_true (of_decide_eq_true (by first | (with_reducible assumption) | assumption) : (wrap64 (x5_1 + (a1.size : Int))) ≤ (a0.size : Int))
       by_cases c7 : (a0.extract (x5_1 : Int).toNat ((wrap64 (x5_1 + (a1.size : Int))) : Int).toNat).toList = a1.toList
       ·rw [if_pos c7] at H
        have c7b0 : ((a0.extract (x5_1 : Int).toNat ((wrap64 (x5_1 + (a1.size : Int))) : Int).toNat).toList == a1.toList) = true := beq_iff_eq.mpr c7
        have c7b1 : ((a0.extract (x5_1 : Int).toNat ((wrap64 (x5_1 + (a1.size : Int))) : Int).toNat).toList != a1.toList) = false := bne_eq_false_iff_eq.mpr c7
        clear c7
        obtain rfl := Option.some.inj H
        go_wp2
        go_ret
        exact ⟨by first | rfl | (simp; done) | (simp [*]; done), by repeat (first | exact Drawn0.refl _ | apply Drawn0.step)⟩
       ·rw [if_neg c7] at H
        have c7b0 : ((a0.extract (x5_1 : Int).toNat ((wrap64 (x5_1 + (a1.size : Int))) : Int).toNat).toList == a1.toList) = false := beq_eq_false_iff_ne.mpr c7
        have c7b1 : ((a0.extract (x5_1 : Int).toNat ((wrap64 (x5_1 + (a1.size : Int))) : Int).toNat).toList != a1.toList) = true := bne_iff_ne.mpr c7
        have H' := Aside0.mk H
        clear H
        go_wp2
        go_roundg k1
        case measure => have := HK1.out; omega
        case rel => exact ⟨(wrap64 (x5_1 + 1)), (by first | rfl | (simp; done) | (simp [*]; done)), H', ⟨by have := HK1.out; omega⟩, by repeat (first | exact Drawn0.refl _ | apply Drawn0.step)⟩
      ·rw [if_neg c5] at H
       exact absurd H (by simp)
     ·rw [if_neg c4] at H
      exact absurd H (by simp)
    ·rw [if_neg c3] at H
     have c3b0 : decide ((wrap64 (x5_1 + (a1.size : Int))) ≤ (a0.size : Int)) = false := decide_eq_false c3
     clear c3
     obtain rfl := Option.some.inj H
     go_wp2
     go_ret
     exact ⟨by first | rfl | (simp; done) | (simp [*]; done), by repeat (first | exact Drawn0.refl _ | apply Drawn0.step)⟩

end Go.Proofs.YtclmjmfcggkpaaaGreatDoor.PX
