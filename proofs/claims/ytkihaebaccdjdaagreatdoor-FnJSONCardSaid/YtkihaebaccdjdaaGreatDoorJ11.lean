import Derived.Test.YtkihaebaccdjdaaGreatDoorJ10
import Derived.Test.YtkihaebaccdjdaaGreatDoorJ9
import Derived.Deep.RegionHeld3
import Derived.Lib.SlBytesConst
set_option linter.unusedVariables false
set_option linter.unusedSimpArgs false
namespace Go.Proofs.YtkihaebaccdjdaaGreatDoor
open Go.RowKit Go.Proofs.YtkihaebaccdjdaaGreatDoorW.PrintWords Go.Proofs.YtkihaebaccdjdaaGreatDoorW.PrintLast Go.Proofs.YtkihaebaccdjdaaGreatDoorW.PrintMore
open PX
namespace H

set_option maxHeartbeats 40000000 in
set_option maxRecDepth 100000 in
theorem xesc_call {B b : Nat} {X : Nat → Prop} {xs : List Int} (s : ByteArray) (w : World) (hB : 4 ≤ B) (h : JB 97 B X b xs w) (hT : Lib.Utf8Tabs 2 3 w) (hs : s.size ≤ 9223372036854775807) (hl : (xs ++ xesc s.size (bytesOf s)).length ≤ 140737488355328) :
 Calls Tryz.prog 173 #[.iface 95 (.pointer (some ⟨b, 0, none⟩)), .string s] w fun e w' => e = .returned (.tuple #[]) ∧ Wrote 97 B X b (xs ++ xesc s.size (bytesOf s)) w w' ∧ Lib.Utf8Tabs 2 3 w' := by
 have hE0 : Aside0 (EX B b X X xs w w) := .mk ⟨h, hT, Fr.refl _ _, fun _ h => h⟩
 obtain ⟨tot, htot⟩ : ∃ tot, xs ++ xesc s.size (bytesOf s) = tot := ⟨_, rfl⟩
 rw [htot] at hl ⊢
 obtain ⟨n, hn⟩ : ∃ n, s.size = n := ⟨_, rfl⟩
 obtain ⟨ss, hss⟩ : ∃ ss, bytesOf s = ss := ⟨_, rfl⟩
 have hsl : ss.length = n := by rw [← hss, bytesOf_length, hn]
 rw [hss, hn] at htot
 have hnil := nilWS ⟨b, 0, none⟩
 have hm1 := mWS ⟨b, 0, none⟩
 have hm2 := mW ⟨b, 0, none⟩
 have hT1 : Aside0 (xs ++ (ss.drop 0).take (0 - 0) ++ xesc n (ss.drop 0) = tot) := .mk (by simpa using htot)
 have hsi1 : ∀ (i : Nat) (w : World), i ≤ n → (Instr.slice 9 (.string s) (some (.int .i64 i)) none none).run Tryz.prog w = .ok (.string (s.extract i n)) w := fun i w hi => by
  rw [run_slice_string_from_if w 9 s .i64 i Tryz.underlying9, if_pos (by omega), Int.toNat_natCast, hn]
 have hsi2 : ∀ (i j : Nat) (w : World), i ≤ j → j ≤ n → (Instr.slice 9 (.string s) (some (.int .i64 i)) (some (.int .i64 j)) none).run Tryz.prog w = .ok (.string (s.extract i j)) w := fun i j w hi hj => by
  rw [run_slice_string w 9 s .i64 .i64 i j Tryz.underlying9 (by omega) (by omega) (by omega), Int.toNat_natCast, Int.toNat_natCast]
 have hB4 := Aside0.mk hB
 replace htot := Aside0.mk htot; replace hss := Aside0.mk hss; replace hsl := Aside0.mk hsl; have hl1 := Aside0.mk hl; replace hsi1 := Aside0.mk hsi1; replace hsi2 := Aside0.mk hsi2
 rw [hn] at hs
 have hn' := Aside0.mk hn
 clear h hT hl hB
 go_enter Tryz.func173, Tryz.ntmps173
 go_wp2_with fail
 go_loopg [4, 5, 6, 7, 8] n (fun q v4 v5 v6 v7 v8 w' => ∃ (st i k : Nat) (ys : List Int), v5 = .int .i64 st ∧ v6 = .int .i64 i ∧ st ≤ i ∧ i ≤ n ∧ Aside0 (q = n - i) ∧ Aside0 (n - i ≤ k) ∧ Aside0 (EX B b X X ys w w') ∧ Aside0 (ys ++ (ss.drop st).take (i - st) ++ xesc k (ss.drop i) = tot))
 case atStart => exact ⟨0, 0, n, xs, rfl, rfl, Nat.le_refl _, Nat.zero_le _, ⟨by omega⟩, ⟨by omega⟩, hE0, hT1⟩
 case round =>
  clear hE0 hT1
  obtain ⟨st, i, k, ys, rfl, rfl, hsi, hin, hq, hk, hE, hT⟩ := hrel
  by_cases hlt : i < n
  ·have hcall := decS s i wr hE.out.d
   rw [hss.out] at hcall
   have hpos := decL_pos (ss.drop i) (fun e => by have h1 := congrArg List.length e; have h2 := hsl.out; simp at h1; omega)
   rw [List.length_drop, hsl.out] at hpos
   obtain ⟨r, hr1⟩ : ∃ r, (decL (ss.drop i)).1 = r := ⟨_, rfl⟩
   obtain ⟨m, hm⟩ : ∃ m, (decL (ss.drop i)).2 = m := ⟨_, rfl⟩
   rw [hr1, hm] at hcall
   rw [hm] at hpos
   rw [hn] at hcall
   have hs1 := fun w => hsi1.out i w hin
   have hs2 := fun w => hsi2.out st i w hsi hin
   have hiw : IntKind.i64.wrap ((i : Int) + (m : Int)) = ((i + m : Nat) : Int) := IntWalk.i64_in _ (by omega)
   have hsub : IntKind.i64.wrap (i : Int) = (i : Int) := IntWalk.i64_in _ (by omega)
   obtain ⟨k', rfl⟩ : ∃ k', k = k' + 1 := ⟨k - 1, by have := hk.out; omega⟩
   have hkm : Aside0 (n - (i + m) ≤ k') := .mk (by have := hk.out; omega)
   have hseg : Aside0 (bytesOf (s.extract st i) = (ss.drop st).take (i - st)) := .mk (by rw [bytes_ext, hss.out])
   have hxl : Aside0 ((s.extract st i).size = i - st) := .mk (by rw [← bytesOf_length, hseg.out]; have := hsl.out; simp; omega)
   have hE' : Aside0 (xesc (k' + 1) (ss.drop i) = match xrep r m with
    | some y => y ++ xesc k' (ss.drop (i + m))
    | none => (ss.drop i).take m ++ xesc k' (ss.drop (i + m))) := .mk (by
      obtain ⟨c, t, hct⟩ : ∃ c t, ss.drop i = c :: t := by
       cases hq : ss.drop i with
       | nil => have h1 := congrArg List.length hq; have h2 := hsl.out; simp at h1; omega
       | cons c t => exact ⟨c, t, rfl⟩
      rw [hct, xesc, ← hct, hr1, hm, List.drop_drop]
      rfl)
   have hT5 := Aside0.mk hT.out
   rw [hE'.out] at hT5
   have hlenA : ∀ y z : List Int, Aside0 (ys ++ (ss.drop st).take (i - st) ++ (y ++ z) = tot → ys.length + (i - st) + y.length ≤ tot.length) := fun y z => .mk (fun h => by
    have h := congrArg List.length h
    have := hsl.out
    simp at h
    omega)
   replace hcall := Aside0.mk hcall; replace hr1 := Aside0.mk hr1; replace hm := Aside0.mk hm; replace hs1 := hs1; replace hlenA := Aside0.mk hlenA
   clear hE' hT
   cases hx : xname r with
   | some nm =>
     have hrep : xrep r m = some (38 :: (nm ++ [59])) := by unfold xrep; rw [hx]
     rw [hrep] at hT5
     simp only at hT5
     have hlen := Aside0.mk (((hlenA.out _ _).out) hT5.out)
     have hc := xname_cases hx
     clear hx hrep
     rcases hc with h | h | h | h | h | h | h | h | h | h
     ·obtain ⟨rfl, rfl⟩ := h
      simp only [List.cons_append, List.nil_append, List.length_cons, List.length_nil] at hlen
      go_wp2_with fail
      refine hcall.out.mono ?_
      rintro e w2 ⟨rfl, hd1⟩
      have hE2 := Aside0.mk (hE.out.calm hd1)
      clear hd1 hE
      go_wp2_with fail
      refine (xlit206 w2).mono ?_
      rintro e w3 ⟨rfl, hbt, hb3⟩
      have hgl := hbt.lt
      have hE3 := Aside0.mk (hE2.out.also hb3 (g := w2.heap.size) (Nat.le_refl _) hgl)
      obtain ⟨g, hg⟩ : ∃ g, w2.heap.size = g := ⟨_, rfl⟩
      rw [hg] at hbt hE3 ⊢
      replace hbt := Aside0.mk hbt
      clear hb3 hE2 hgl hg
      go_wp2_with fail
      go_region_held3 (fun _ => True) (trivial) (first | ((go_at_call 263; refine (xws (s.extract st i) _ (hE3.out.jb.calm (drewBx _)) (by rw [hxl.out]; have := hl1.out; have := hlen.out; omega)).mono ?_; rintro e w4 ⟨rfl, hw4⟩; replace hw4 := hw4.undrew; have hE4 := Aside0.mk (hE3.out.wrote hB4.out hw4); have hbt4 := Aside0.mk (hbt.out.fr hw4.2 (fun e => e.2 (.inr rfl))); clear hw4)))
      all_goals
       have hrd := seg_reads hbt4.out 0 5 (by simp) (by simp)
       simp only [List.drop_zero, List.take_succ_cons, List.take_zero] at hrd
       replace hrd := Aside0.mk hrd
       go_wp2_with fail
       refine (xw (some ⟨g, 0, none⟩) 5 5 [38, 35, 51, 52, 59] w4 hE4.out.jb hrd.out (by rw [List.length_append, bytesOf_length, hxl.out]; have := hl1.out; have := hlen.out; omega)).mono ?_
       rintro e w5 ⟨rfl, hw5⟩
       have hE5 := Aside0.mk ((hE4.out.wrote hB4.out hw5).less)
       clear hw5 hrd
       go_wp2_with fail
       go_roundg (n - (i + m))
       case rel => exact ⟨i + m, i + m, k', _, by go_num, by go_num, by omega, by omega, ⟨rfl⟩, hkm, hE5, ⟨by rw [← hT5.out, hseg.out, Nat.sub_self, List.take_zero, List.append_nil]; simp⟩⟩
       case measure => have := hq.out; omega
     ·obtain ⟨rfl, rfl⟩ := h
      simp only [List.cons_append, List.nil_append, List.length_cons, List.length_nil] at hlen
      go_wp2_with fail
      refine hcall.out.mono ?_
      rintro e w2 ⟨rfl, hd1⟩
      have hE2 := Aside0.mk (hE.out.calm hd1)
      clear hd1 hE
      go_wp2_with fail
      refine (xlit207 w2).mono ?_
      rintro e w3 ⟨rfl, hbt, hb3⟩
      have hgl := hbt.lt
      have hE3 := Aside0.mk (hE2.out.also hb3 (g := w2.heap.size) (Nat.le_refl _) hgl)
      obtain ⟨g, hg⟩ : ∃ g, w2.heap.size = g := ⟨_, rfl⟩
      rw [hg] at hbt hE3 ⊢
      replace hbt := Aside0.mk hbt
      clear hb3 hE2 hgl hg
      go_wp2_with fail
      go_region_held3 (fun _ => True) (trivial) (first | ((go_at_call 263; refine (xws (s.extract st i) _ (hE3.out.jb.calm (drewBx _)) (by rw [hxl.out]; have := hl1.out; have := hlen.out; omega)).mono ?_; rintro e w4 ⟨rfl, hw4⟩; replace hw4 := hw4.undrew; have hE4 := Aside0.mk (hE3.out.wrote hB4.out hw4); have hbt4 := Aside0.mk (hbt.out.fr hw4.2 (fun e => e.2 (.inr rfl))); clear hw4)))
      all_goals
       have hrd := seg_reads hbt4.out 0 5 (by simp) (by simp)
       simp only [List.drop_zero, List.take_succ_cons, List.take_zero] at hrd
       replace hrd := Aside0.mk hrd
       go_wp2_with fail
       refine (xw (some ⟨g, 0, none⟩) 5 5 [38, 35, 51, 57, 59] w4 hE4.out.jb hrd.out (by rw [List.length_append, bytesOf_length, hxl.out]; have := hl1.out; have := hlen.out; omega)).mono ?_
       rintro e w5 ⟨rfl, hw5⟩
       have hE5 := Aside0.mk ((hE4.out.wrote hB4.out hw5).less)
       clear hw5 hrd
       go_wp2_with fail
       go_roundg (n - (i + m))
       case rel => exact ⟨i + m, i + m, k', _, by go_num, by go_num, by omega, by omega, ⟨rfl⟩, hkm, hE5, ⟨by rw [← hT5.out, hseg.out, Nat.sub_self, List.take_zero, List.append_nil]; simp⟩⟩
       case measure => have := hq.out; omega
     ·obtain ⟨rfl, rfl⟩ := h
      simp only [List.cons_append, List.nil_append, List.length_cons, List.length_nil] at hlen
      go_wp2_with fail
      refine hcall.out.mono ?_
      rintro e w2 ⟨rfl, hd1⟩
      have hE2 := Aside0.mk (hE.out.calm hd1)
      clear hd1 hE
      go_wp2_with fail
      refine (xlit208 w2).mono ?_
      rintro e w3 ⟨rfl, hbt, hb3⟩
      have hgl := hbt.lt
      have hE3 := Aside0.mk (hE2.out.also hb3 (g := w2.heap.size) (Nat.le_refl _) hgl)
      obtain ⟨g, hg⟩ : ∃ g, w2.heap.size = g := ⟨_, rfl⟩
      rw [hg] at hbt hE3 ⊢
      replace hbt := Aside0.mk hbt
      clear hb3 hE2 hgl hg
      go_wp2_with fail
      go_region_held3 (fun _ => True) (trivial) (first | ((go_at_call 263; refine (xws (s.extract st i) _ (hE3.out.jb.calm (drewBx _)) (by rw [hxl.out]; have := hl1.out; have := hlen.out; omega)).mono ?_; rintro e w4 ⟨rfl, hw4⟩; replace hw4 := hw4.undrew; have hE4 := Aside0.mk (hE3.out.wrote hB4.out hw4); have hbt4 := Aside0.mk (hbt.out.fr hw4.2 (fun e => e.2 (.inr rfl))); clear hw4)))
      all_goals
       have hrd := seg_reads hbt4.out 0 5 (by simp) (by simp)
       simp only [List.drop_zero, List.take_succ_cons, List.take_zero] at hrd
       replace hrd := Aside0.mk hrd
       go_wp2_with fail
       refine (xw (some ⟨g, 0, none⟩) 5 5 [38, 97, 109, 112, 59] w4 hE4.out.jb hrd.out (by rw [List.length_append, bytesOf_length, hxl.out]; have := hl1.out; have := hlen.out; omega)).mono ?_
       rintro e w5 ⟨rfl, hw5⟩
       have hE5 := Aside0.mk ((hE4.out.wrote hB4.out hw5).less)
       clear hw5 hrd
       go_wp2_with fail
       go_roundg (n - (i + m))
       case rel => exact ⟨i + m, i + m, k', _, by go_num, by go_num, by omega, by omega, ⟨rfl⟩, hkm, hE5, ⟨by rw [← hT5.out, hseg.out, Nat.sub_self, List.take_zero, List.append_nil]; simp⟩⟩
       case measure => have := hq.out; omega
     ·obtain ⟨rfl, rfl⟩ := h
      simp only [List.cons_append, List.nil_append, List.length_cons, List.length_nil] at hlen
      go_wp2_with fail
      refine hcall.out.mono ?_
      rintro e w2 ⟨rfl, hd1⟩
      have hE2 := Aside0.mk (hE.out.calm hd1)
      clear hd1 hE
      go_wp2_with fail
      refine (xlit209 w2).mono ?_
      rintro e w3 ⟨rfl, hbt, hb3⟩
      have hgl := hbt.lt
      have hE3 := Aside0.mk (hE2.out.also hb3 (g := w2.heap.size) (Nat.le_refl _) hgl)
      obtain ⟨g, hg⟩ : ∃ g, w2.heap.size = g := ⟨_, rfl⟩
      rw [hg] at hbt hE3 ⊢
      replace hbt := Aside0.mk hbt
      clear hb3 hE2 hgl hg
      go_wp2_with fail
      go_region_held3 (fun _ => True) (trivial) (first | ((go_at_call 263; refine (xws (s.extract st i) _ (hE3.out.jb.calm (drewBx _)) (by rw [hxl.out]; have := hl1.out; have := hlen.out; omega)).mono ?_; rintro e w4 ⟨rfl, hw4⟩; replace hw4 := hw4.undrew; have hE4 := Aside0.mk (hE3.out.wrote hB4.out hw4); have hbt4 := Aside0.mk (hbt.out.fr hw4.2 (fun e => e.2 (.inr rfl))); clear hw4)))
      all_goals
       have hrd := seg_reads hbt4.out 0 4 (by simp) (by simp)
       simp only [List.drop_zero, List.take_succ_cons, List.take_zero] at hrd
       replace hrd := Aside0.mk hrd
       go_wp2_with fail
       refine (xw (some ⟨g, 0, none⟩) 4 4 [38, 108, 116, 59] w4 hE4.out.jb hrd.out (by rw [List.length_append, bytesOf_length, hxl.out]; have := hl1.out; have := hlen.out; omega)).mono ?_
       rintro e w5 ⟨rfl, hw5⟩
       have hE5 := Aside0.mk ((hE4.out.wrote hB4.out hw5).less)
       clear hw5 hrd
       go_wp2_with fail
       go_roundg (n - (i + m))
       case rel => exact ⟨i + m, i + m, k', _, by go_num, by go_num, by omega, by omega, ⟨rfl⟩, hkm, hE5, ⟨by rw [← hT5.out, hseg.out, Nat.sub_self, List.take_zero, List.append_nil]; simp⟩⟩
       case measure => have := hq.out; omega
     ·obtain ⟨rfl, rfl⟩ := h
      simp only [List.cons_append, List.nil_append, List.length_cons, List.length_nil] at hlen
      go_wp2_with fail
      refine hcall.out.mono ?_
      rintro e w2 ⟨rfl, hd1⟩
      have hE2 := Aside0.mk (hE.out.calm hd1)
      clear hd1 hE
      go_wp2_with fail
      refine (xlit210 w2).mono ?_
      rintro e w3 ⟨rfl, hbt, hb3⟩
      have hgl := hbt.lt
      have hE3 := Aside0.mk (hE2.out.also hb3 (g := w2.heap.size) (Nat.le_refl _) hgl)
      obtain ⟨g, hg⟩ : ∃ g, w2.heap.size = g := ⟨_, rfl⟩
      rw [hg] at hbt hE3 ⊢
      replace hbt := Aside0.mk hbt
      clear hb3 hE2 hgl hg
      go_wp2_with fail
      go_region_held3 (fun _ => True) (trivial) (first | ((go_at_call 263; refine (xws (s.extract st i) _ (hE3.out.jb.calm (drewBx _)) (by rw [hxl.out]; have := hl1.out; have := hlen.out; omega)).mono ?_; rintro e w4 ⟨rfl, hw4⟩; replace hw4 := hw4.undrew; have hE4 := Aside0.mk (hE3.out.wrote hB4.out hw4); have hbt4 := Aside0.mk (hbt.out.fr hw4.2 (fun e => e.2 (.inr rfl))); clear hw4)))
      all_goals
       have hrd := seg_reads hbt4.out 0 4 (by simp) (by simp)
       simp only [List.drop_zero, List.take_succ_cons, List.take_zero] at hrd
       replace hrd := Aside0.mk hrd
       go_wp2_with fail
       refine (xw (some ⟨g, 0, none⟩) 4 4 [38, 103, 116, 59] w4 hE4.out.jb hrd.out (by rw [List.length_append, bytesOf_length, hxl.out]; have := hl1.out; have := hlen.out; omega)).mono ?_
       rintro e w5 ⟨rfl, hw5⟩
       have hE5 := Aside0.mk ((hE4.out.wrote hB4.out hw5).less)
       clear hw5 hrd
       go_wp2_with fail
       go_roundg (n - (i + m))
       case rel => exact ⟨i + m, i + m, k', _, by go_num, by go_num, by omega, by omega, ⟨rfl⟩, hkm, hE5, ⟨by rw [← hT5.out, hseg.out, Nat.sub_self, List.take_zero, List.append_nil]; simp⟩⟩
       case measure => have := hq.out; omega
     ·obtain ⟨rfl, rfl⟩ := h
      simp only [List.cons_append, List.nil_append, List.length_cons, List.length_nil] at hlen
      go_wp2_with fail
      refine hcall.out.mono ?_
      rintro e w2 ⟨rfl, hd1⟩
      have hE2 := Aside0.mk (hE.out.calm hd1)
      clear hd1 hE
      go_wp2_with fail
      refine (xlit211 w2).mono ?_
      rintro e w3 ⟨rfl, hbt, hb3⟩
      have hgl := hbt.lt
      have hE3 := Aside0.mk (hE2.out.also hb3 (g := w2.heap.size) (Nat.le_refl _) hgl)
      obtain ⟨g, hg⟩ : ∃ g, w2.heap.size = g := ⟨_, rfl⟩
      rw [hg] at hbt hE3 ⊢
      replace hbt := Aside0.mk hbt
      clear hb3 hE2 hgl hg
      go_wp2_with fail
      go_region_held3 (fun _ => True) (trivial) (first | ((go_at_call 263; refine (xws (s.extract st i) _ (hE3.out.jb.calm (drewBx _)) (by rw [hxl.out]; have := hl1.out; have := hlen.out; omega)).mono ?_; rintro e w4 ⟨rfl, hw4⟩; replace hw4 := hw4.undrew; have hE4 := Aside0.mk (hE3.out.wrote hB4.out hw4); have hbt4 := Aside0.mk (hbt.out.fr hw4.2 (fun e => e.2 (.inr rfl))); clear hw4)))
      all_goals
       have hrd := seg_reads hbt4.out 0 5 (by simp) (by simp)
       simp only [List.drop_zero, List.take_succ_cons, List.take_zero] at hrd
       replace hrd := Aside0.mk hrd
       go_wp2_with fail
       refine (xw (some ⟨g, 0, none⟩) 5 5 [38, 35, 120, 57, 59] w4 hE4.out.jb hrd.out (by rw [List.length_append, bytesOf_length, hxl.out]; have := hl1.out; have := hlen.out; omega)).mono ?_
       rintro e w5 ⟨rfl, hw5⟩
       have hE5 := Aside0.mk ((hE4.out.wrote hB4.out hw5).less)
       clear hw5 hrd
       go_wp2_with fail
       go_roundg (n - (i + m))
       case rel => exact ⟨i + m, i + m, k', _, by go_num, by go_num, by omega, by omega, ⟨rfl⟩, hkm, hE5, ⟨by rw [← hT5.out, hseg.out, Nat.sub_self, List.take_zero, List.append_nil]; simp⟩⟩
       case measure => have := hq.out; omega
     ·obtain ⟨rfl, rfl⟩ := h
      simp only [List.cons_append, List.nil_append, List.length_cons, List.length_nil] at hlen
      go_wp2_with fail
      refine hcall.out.mono ?_
      rintro e w2 ⟨rfl, hd1⟩
      have hE2 := Aside0.mk (hE.out.calm hd1)
      clear hd1 hE
      go_wp2_with fail
      refine (xlit212 w2).mono ?_
      rintro e w3 ⟨rfl, hbt, hb3⟩
      have hgl := hbt.lt
      have hE3 := Aside0.mk (hE2.out.also hb3 (g := w2.heap.size) (Nat.le_refl _) hgl)
      obtain ⟨g, hg⟩ : ∃ g, w2.heap.size = g := ⟨_, rfl⟩
      rw [hg] at hbt hE3 ⊢
      replace hbt := Aside0.mk hbt
      clear hb3 hE2 hgl hg
      go_wp2_with fail
      go_region_held3 (fun _ => True) (trivial) (first | ((go_at_call 263; refine (xws (s.extract st i) _ (hE3.out.jb.calm (drewBx _)) (by rw [hxl.out]; have := hl1.out; have := hlen.out; omega)).mono ?_; rintro e w4 ⟨rfl, hw4⟩; replace hw4 := hw4.undrew; have hE4 := Aside0.mk (hE3.out.wrote hB4.out hw4); have hbt4 := Aside0.mk (hbt.out.fr hw4.2 (fun e => e.2 (.inr rfl))); clear hw4)))
      all_goals
       have hrd := seg_reads hbt4.out 0 5 (by simp) (by simp)
       simp only [List.drop_zero, List.take_succ_cons, List.take_zero] at hrd
       replace hrd := Aside0.mk hrd
       go_wp2_with fail
       refine (xw (some ⟨g, 0, none⟩) 5 5 [38, 35, 120, 65, 59] w4 hE4.out.jb hrd.out (by rw [List.length_append, bytesOf_length, hxl.out]; have := hl1.out; have := hlen.out; omega)).mono ?_
       rintro e w5 ⟨rfl, hw5⟩
       have hE5 := Aside0.mk ((hE4.out.wrote hB4.out hw5).less)
       clear hw5 hrd
       go_wp2_with fail
       go_roundg (n - (i + m))
       case rel => exact ⟨i + m, i + m, k', _, by go_num, by go_num, by omega, by omega, ⟨rfl⟩, hkm, hE5, ⟨by rw [← hT5.out, hseg.out, Nat.sub_self, List.take_zero, List.append_nil]; simp⟩⟩
       case measure => have := hq.out; omega
     ·obtain ⟨rfl, rfl⟩ := h
      simp only [List.cons_append, List.nil_append, List.length_cons, List.length_nil] at hlen
      go_wp2_with fail
      refine hcall.out.mono ?_
      rintro e w2 ⟨rfl, hd1⟩
      have hE2 := Aside0.mk (hE.out.calm hd1)
      clear hd1 hE
      go_wp2_with fail
      refine (xlit213 w2).mono ?_
      rintro e w3 ⟨rfl, hbt, hb3⟩
      have hgl := hbt.lt
      have hE3 := Aside0.mk (hE2.out.also hb3 (g := w2.heap.size) (Nat.le_refl _) hgl)
      obtain ⟨g, hg⟩ : ∃ g, w2.heap.size = g := ⟨_, rfl⟩
      rw [hg] at hbt hE3 ⊢
      replace hbt := Aside0.mk hbt
      clear hb3 hE2 hgl hg
      go_wp2_with fail
      go_region_held3 (fun _ => True) (trivial) (first | ((go_at_call 263; refine (xws (s.extract st i) _ (hE3.out.jb.calm (drewBx _)) (by rw [hxl.out]; have := hl1.out; have := hlen.out; omega)).mono ?_; rintro e w4 ⟨rfl, hw4⟩; replace hw4 := hw4.undrew; have hE4 := Aside0.mk (hE3.out.wrote hB4.out hw4); have hbt4 := Aside0.mk (hbt.out.fr hw4.2 (fun e => e.2 (.inr rfl))); clear hw4)))
      all_goals
       have hrd := seg_reads hbt4.out 0 5 (by simp) (by simp)
       simp only [List.drop_zero, List.take_succ_cons, List.take_zero] at hrd
       replace hrd := Aside0.mk hrd
       go_wp2_with fail
       refine (xw (some ⟨g, 0, none⟩) 5 5 [38, 35, 120, 68, 59] w4 hE4.out.jb hrd.out (by rw [List.length_append, bytesOf_length, hxl.out]; have := hl1.out; have := hlen.out; omega)).mono ?_
       rintro e w5 ⟨rfl, hw5⟩
       have hE5 := Aside0.mk ((hE4.out.wrote hB4.out hw5).less)
       clear hw5 hrd
       go_wp2_with fail
       go_roundg (n - (i + m))
       case rel => exact ⟨i + m, i + m, k', _, by go_num, by go_num, by omega, by omega, ⟨rfl⟩, hkm, hE5, ⟨by rw [← hT5.out, hseg.out, Nat.sub_self, List.take_zero, List.append_nil]; simp⟩⟩
       case measure => have := hq.out; omega
     ·obtain ⟨rfl, rfl⟩ := h
      simp only [List.cons_append, List.nil_append, List.length_cons, List.length_nil] at hlen
      go_wp2_with fail
      refine hcall.out.mono ?_
      rintro e w2 ⟨rfl, hd1⟩
      have hE2 := Aside0.mk (hE.out.calm hd1)
      clear hd1 hE
      go_wp2_with fail
      refine (xlit214 w2).mono ?_
      rintro e w3 ⟨rfl, hbt, hb3⟩
      have hgl := hbt.lt
      have hE3 := Aside0.mk (hE2.out.also hb3 (g := w2.heap.size) (Nat.le_refl _) hgl)
      obtain ⟨g, hg⟩ : ∃ g, w2.heap.size = g := ⟨_, rfl⟩
      rw [hg] at hbt hE3 ⊢
      replace hbt := Aside0.mk hbt
      clear hb3 hE2 hgl hg
      go_wp2_with fail
      go_region_held3 (fun _ => True) (trivial) (first | ((go_at_call 263; refine (xws (s.extract st i) _ (hE3.out.jb.calm (drewBx _)) (by rw [hxl.out]; have := hl1.out; have := hlen.out; omega)).mono ?_; rintro e w4 ⟨rfl, hw4⟩; replace hw4 := hw4.undrew; have hE4 := Aside0.mk (hE3.out.wrote hB4.out hw4); have hbt4 := Aside0.mk (hbt.out.fr hw4.2 (fun e => e.2 (.inr rfl))); clear hw4)))
      all_goals
       have hrd := seg_reads hbt4.out 0 6 (by simp) (by simp)
       simp only [List.drop_zero, List.take_succ_cons, List.take_zero] at hrd
       replace hrd := Aside0.mk hrd
       go_wp2_with fail
       refine (xw (some ⟨g, 0, none⟩) 6 6 [38, 35, 120, 56, 53, 59] w4 hE4.out.jb hrd.out (by rw [List.length_append, bytesOf_length, hxl.out]; have := hl1.out; have := hlen.out; omega)).mono ?_
       rintro e w5 ⟨rfl, hw5⟩
       have hE5 := Aside0.mk ((hE4.out.wrote hB4.out hw5).less)
       clear hw5 hrd
       go_wp2_with fail
       go_roundg (n - (i + m))
       case rel => exact ⟨i + m, i + m, k', _, by go_num, by go_num, by omega, by omega, ⟨rfl⟩, hkm, hE5, ⟨by rw [← hT5.out, hseg.out, Nat.sub_self, List.take_zero, List.append_nil]; simp⟩⟩
       case measure => have := hq.out; omega
     ·obtain ⟨rfl, rfl⟩ := h
      simp only [List.cons_append, List.nil_append, List.length_cons, List.length_nil] at hlen
      go_wp2_with fail
      refine hcall.out.mono ?_
      rintro e w2 ⟨rfl, hd1⟩
      have hE2 := Aside0.mk (hE.out.calm hd1)
      clear hd1 hE
      go_wp2_with fail
      refine (xlit215 w2).mono ?_
      rintro e w3 ⟨rfl, hbt, hb3⟩
      have hgl := hbt.lt
      have hE3 := Aside0.mk (hE2.out.also hb3 (g := w2.heap.size) (Nat.le_refl _) hgl)
      obtain ⟨g, hg⟩ : ∃ g, w2.heap.size = g := ⟨_, rfl⟩
      rw [hg] at hbt hE3 ⊢
      replace hbt := Aside0.mk hbt
      clear hb3 hE2 hgl hg
      go_wp2_with fail
      go_region_held3 (fun _ => True) (trivial) (first | ((go_at_call 263; refine (xws (s.extract st i) _ (hE3.out.jb.calm (drewBx _)) (by rw [hxl.out]; have := hl1.out; have := hlen.out; omega)).mono ?_; rintro e w4 ⟨rfl, hw4⟩; replace hw4 := hw4.undrew; have hE4 := Aside0.mk (hE3.out.wrote hB4.out hw4); have hbt4 := Aside0.mk (hbt.out.fr hw4.2 (fun e => e.2 (.inr rfl))); clear hw4)))
      all_goals
       have hrd := seg_reads hbt4.out 0 8 (by simp) (by simp)
       simp only [List.drop_zero, List.take_succ_cons, List.take_zero] at hrd
       replace hrd := Aside0.mk hrd
       go_wp2_with fail
       refine (xw (some ⟨g, 0, none⟩) 8 8 [38, 35, 120, 50, 48, 50, 56, 59] w4 hE4.out.jb hrd.out (by rw [List.length_append, bytesOf_length, hxl.out]; have := hl1.out; have := hlen.out; omega)).mono ?_
       rintro e w5 ⟨rfl, hw5⟩
       have hE5 := Aside0.mk ((hE4.out.wrote hB4.out hw5).less)
       clear hw5 hrd
       go_wp2_with fail
       go_roundg (n - (i + m))
       case rel => exact ⟨i + m, i + m, k', _, by go_num, by go_num, by omega, by omega, ⟨rfl⟩, hkm, hE5, ⟨by rw [← hT5.out, hseg.out, Nat.sub_self, List.take_zero, List.append_nil]; simp⟩⟩
       case measure => have := hq.out; omega
   | none =>
     have hne : r ≠ 34 ∧ r ≠ 39 ∧ r ≠ 38 ∧ r ≠ 60 ∧ r ≠ 62 ∧ r ≠ 9 ∧ r ≠ 10 ∧ r ≠ 13 ∧ r ≠ 133 ∧ r ≠ 8232 := by
      refine ⟨?_, ?_, ?_, ?_, ?_, ?_, ?_, ?_, ?_, ?_⟩
      all_goals (rintro rfl; simp [xname] at hx)
     obtain ⟨g1, g2, g3, g4, g5, g6, g7, g8, g9, g10⟩ := hne
     have f1 : (r == 34) = false := beq_eq_false_iff_ne.2 g1
     have f2 : (r == 39) = false := beq_eq_false_iff_ne.2 g2
     have f3 : (r == 38) = false := beq_eq_false_iff_ne.2 g3
     have f4 : (r == 60) = false := beq_eq_false_iff_ne.2 g4
     have f5 : (r == 62) = false := beq_eq_false_iff_ne.2 g5
     have f6 : (r == 9) = false := beq_eq_false_iff_ne.2 g6
     have f7 : (r == 10) = false := beq_eq_false_iff_ne.2 g7
     have f8 : (r == 13) = false := beq_eq_false_iff_ne.2 g8
     have f9 : (r == 133) = false := beq_eq_false_iff_ne.2 g9
     have f10 : (r == 8232) = false := beq_eq_false_iff_ne.2 g10
     clear g1 g2 g3 g4 g5 g6 g7 g8 g9 g10
     have hrep : xrep r m = if ¬ inR r ∨ (r = 65533 ∧ m = 1) then some [239, 191, 189] else none := by unfold xrep; rw [hx]
     rw [hrep] at hT5
     have hinr := smxml_isInCharacterRange.calls r (decide (inR r))
     clear hx hrep
     by_cases hi : inR r
     ·have hin2 := fun w => hinr w (by rw [inR_f])
      rw [decide_eq_true hi] at hin2
      clear hinr
      by_cases h3 : r = 65533
      ·by_cases h1 : m = 1
       ·rw [if_pos (.inr ⟨h3, h1⟩)] at hT5
        simp only at hT5
        have hlen := Aside0.mk (((hlenA.out _ _).out) hT5.out)
        simp only [List.length_cons, List.length_nil] at hlen
        subst h3
        have hm1 : ((m : Int) == 1) = true := by rw [h1]; rfl
        replace hin2 := Aside0.mk hin2
        go_wp2_with fail
        refine hcall.out.mono ?_
        rintro e w1 ⟨rfl, hd1⟩
        have hE1 := Aside0.mk (hE.out.calm hd1)
        clear hd1 hE
        go_wp2_with fail
        refine (hin2.out w1).mono ?_
        rintro e w2 ⟨rfl, hd2⟩
        have hE2 := Aside0.mk (hE1.out.calm hd2.below)
        clear hd2 hE1
        go_wp2_with fail
        refine (xlit217 w2).mono ?_
        rintro e w3 ⟨rfl, hbt, hb3⟩
        have hgl := hbt.lt
        have hE3 := Aside0.mk (hE2.out.also hb3 (g := w2.heap.size) (Nat.le_refl _) hgl)
        obtain ⟨g, hg⟩ : ∃ g, w2.heap.size = g := ⟨_, rfl⟩
        rw [hg] at hbt hE3 ⊢
        replace hbt := Aside0.mk hbt
        clear hb3 hE2 hgl hg
        go_wp2_with fail
        go_region_held3 (fun _ => True) (trivial) (first | ((go_at_call 263; refine (xws (s.extract st i) _ (hE3.out.jb.calm (drewBx _)) (by rw [hxl.out]; have := hl1.out; have := hlen.out; omega)).mono ?_; rintro e w4 ⟨rfl, hw4⟩; replace hw4 := hw4.undrew; have hE4 := Aside0.mk (hE3.out.wrote hB4.out hw4); have hbt4 := Aside0.mk (hbt.out.fr hw4.2 (fun e => e.2 (.inr rfl))); clear hw4)))
        all_goals
         have hrd := seg_reads hbt4.out 0 3 (by simp) (by simp)
         simp only [List.drop_zero, List.take_succ_cons, List.take_zero] at hrd
         replace hrd := Aside0.mk hrd
         go_wp2_with fail
         refine (xw (some ⟨g, 0, none⟩) 3 3 [239, 191, 189] w4 hE4.out.jb hrd.out (by rw [List.length_append, bytesOf_length, hxl.out]; have := hl1.out; have := hlen.out; omega)).mono ?_
         rintro e w5 ⟨rfl, hw5⟩
         have hE5 := Aside0.mk ((hE4.out.wrote hB4.out hw5).less)
         clear hw5 hrd
         go_wp2_with fail
         go_roundg (n - (i + m))
         case rel => exact ⟨i + m, i + m, k', _, by go_num, by go_num, by omega, by omega, ⟨rfl⟩, hkm, hE5, ⟨by rw [← hT5.out, hseg.out, Nat.sub_self, List.take_zero, List.append_nil]; simp⟩⟩
         case measure => have := hq.out; omega
       ·rw [if_neg (by rintro (e | e); exact e hi; exact h1 e.2)] at hT5
        have hT6 : Aside0 (ys ++ (ss.drop st).take (i + m - st) ++ xesc k' (ss.drop (i + m)) = tot) := .mk (by
         rw [← seg_app' ss st i m hsi, ← hT5.out]
         simp)
        have hm1 : ((m : Int) == 1) = false := beq_eq_false_iff_ne.2 (by omega)
        subst h3
        clear hT5 hi
        replace hin2 := Aside0.mk hin2
        go_wp2_with fail
        refine hcall.out.mono ?_
        rintro e w1 ⟨rfl, hd1⟩
        have hE1 := Aside0.mk (hE.out.calm hd1)
        clear hd1 hE
        go_wp2_with fail
        refine (hin2.out w1).mono ?_
        rintro e w2 ⟨rfl, hd2⟩
        have hE2 := Aside0.mk (hE1.out.calm hd2.below)
        clear hd2 hE1
        go_wp2_with fail
        go_roundg (n - (i + m))
        case rel => exact ⟨st, i + m, k', ys, rfl, by go_num, by omega, by omega, ⟨rfl⟩, hkm, hE2, hT6⟩
        case measure => have := hq.out; omega
      ·rw [if_neg (by rintro (e | e); exact e hi; exact h3 e.1)] at hT5
       have hT6 : Aside0 (ys ++ (ss.drop st).take (i + m - st) ++ xesc k' (ss.drop (i + m)) = tot) := .mk (by
        rw [← seg_app' ss st i m hsi, ← hT5.out]
        simp)
       have hb3 : (r == 65533) = false := beq_eq_false_iff_ne.2 h3
       clear hT5 hi h3
       replace hin2 := Aside0.mk hin2
       go_wp2_with fail
       refine hcall.out.mono ?_
       rintro e w1 ⟨rfl, hd1⟩
       have hE1 := Aside0.mk (hE.out.calm hd1)
       clear hd1 hE
       go_wp2_with fail
       refine (hin2.out w1).mono ?_
       rintro e w2 ⟨rfl, hd2⟩
       have hE2 := Aside0.mk (hE1.out.calm hd2.below)
       clear hd2 hE1
       go_wp2_with fail
       go_roundg (n - (i + m))
       case rel => exact ⟨st, i + m, k', ys, rfl, by go_num, by omega, by omega, ⟨rfl⟩, hkm, hE2, hT6⟩
       case measure => have := hq.out; omega
     ·have hin2 := fun w => hinr w (by rw [inR_f])
      rw [decide_eq_false hi] at hin2
      rw [if_pos (.inl hi)] at hT5
      simp only at hT5
      have hlen := Aside0.mk (((hlenA.out _ _).out) hT5.out)
      simp only [List.length_cons, List.length_nil] at hlen
      clear hinr hi
      replace hin2 := Aside0.mk hin2
      go_wp2_with fail
      refine hcall.out.mono ?_
      rintro e w1 ⟨rfl, hd1⟩
      have hE1 := Aside0.mk (hE.out.calm hd1)
      clear hd1 hE
      go_wp2_with fail
      refine (hin2.out w1).mono ?_
      rintro e w2 ⟨rfl, hd2⟩
      have hE2 := Aside0.mk (hE1.out.calm hd2.below)
      clear hd2 hE1
      go_wp2_with fail
      refine (xlit217 w2).mono ?_
      rintro e w3 ⟨rfl, hbt, hb3⟩
      have hgl := hbt.lt
      have hE3 := Aside0.mk (hE2.out.also hb3 (g := w2.heap.size) (Nat.le_refl _) hgl)
      obtain ⟨g, hg⟩ : ∃ g, w2.heap.size = g := ⟨_, rfl⟩
      rw [hg] at hbt hE3 ⊢
      replace hbt := Aside0.mk hbt
      clear hb3 hE2 hgl hg
      go_wp2_with fail
      go_region_held3 (fun _ => True) (trivial) (first | ((go_at_call 263; refine (xws (s.extract st i) _ (hE3.out.jb.calm (drewBx _)) (by rw [hxl.out]; have := hl1.out; have := hlen.out; omega)).mono ?_; rintro e w4 ⟨rfl, hw4⟩; replace hw4 := hw4.undrew; have hE4 := Aside0.mk (hE3.out.wrote hB4.out hw4); have hbt4 := Aside0.mk (hbt.out.fr hw4.2 (fun e => e.2 (.inr rfl))); clear hw4)))
      all_goals
       have hrd := seg_reads hbt4.out 0 3 (by simp) (by simp)
       simp only [List.drop_zero, List.take_succ_cons, List.take_zero] at hrd
       replace hrd := Aside0.mk hrd
       go_wp2_with fail
       refine (xw (some ⟨g, 0, none⟩) 3 3 [239, 191, 189] w4 hE4.out.jb hrd.out (by rw [List.length_append, bytesOf_length, hxl.out]; have := hl1.out; have := hlen.out; omega)).mono ?_
       rintro e w5 ⟨rfl, hw5⟩
       have hE5 := Aside0.mk ((hE4.out.wrote hB4.out hw5).less)
       clear hw5 hrd
       go_wp2_with fail
       go_roundg (n - (i + m))
       case rel => exact ⟨i + m, i + m, k', _, by go_num, by go_num, by omega, by omega, ⟨rfl⟩, hkm, hE5, ⟨by rw [← hT5.out, hseg.out, Nat.sub_self, List.take_zero, List.append_nil]; simp⟩⟩
       case measure => have := hq.out; omega
  ·obtain rfl : i = n := by omega
   have hT4 : Aside0 (ys ++ ss.drop st = tot) := .mk (by
    have h := hT.out
    rw [show ss.drop i = [] from List.drop_eq_nil_of_le (by have := hsl.out; omega), xesc_nil, List.append_nil, List.take_of_length_le (by have := hsl.out; simp; omega)] at h
    exact h)
   clear hT
   have hs1 := fun w => hsi1.out st w hsi
   have hlen : Aside0 (ys.length + (i - st) = tot.length) := .mk (by
    rw [← hT4.out, List.length_append, List.length_drop, hsl.out])
   have hbx : Aside0 (bytesOf (s.extract st i) = ss.drop st) := .mk (by rw [← hn'.out, bytes_tail, hss.out])
   have hxl : Aside0 ((s.extract st i).size = i - st) := .mk (by rw [← bytesOf_length, hbx.out, List.length_drop, hsl.out])
   go_wp2_with fail
   go_region_held3 (fun _ => True) (trivial) (first | ((go_at_call 263; refine (xws (s.extract st i) _ (hE.out.jb.calm (drewBx _)) (by rw [hxl.out]; have := hl1.out; have := hlen.out; omega)).mono ?_; rintro e w4 ⟨rfl, hw4⟩; replace hw4 := hw4.undrew; rw [hbx.out, hT4.out] at hw4; have hE4 := Aside0.mk (hE.out.wrote hB4.out hw4); clear hw4)))
   all_goals
    go_wp2
    refine bodyPost_end (results_none rfl _ _ _) rfl ?_
    exact ⟨rfl, ⟨hE4.out.jb, hE4.out.fr⟩, hE4.out.d⟩

end H
end Go.Proofs.YtkihaebaccdjdaaGreatDoor
