import Derived.Test.YtkihaebaccdjdaaGreatDoorJ6
import Derived.Test.YtkihaebaccdjdaaGreatDoorJ7
import Derived.Deep.RegionHeld3
import Derived.Shelf.Unicode.DecodeSlow
set_option linter.unusedVariables false
set_option linter.unusedSimpArgs false
namespace Go.Proofs.YtkihaebaccdjdaaGreatDoor
open Go.RowKit Go.Proofs.YtkihaebaccdjdaaGreatDoorW.PrintWords Go.Proofs.YtkihaebaccdjdaaGreatDoorW.PrintLast Go.Proofs.YtkihaebaccdjdaaGreatDoorW.PrintMore
open Go.Lib (bytesWorld bytesCells bytesWorld_at_new bytesWorld_at_old bytesWorld_size)
namespace H
/-! ### Value.String, Object.Key -/
/-- The decoder serves every block of bytes, and what it reads stays (DD: said once for the whole encoder). -/
structure DD (dec : List Int → Int × Nat) (D : World → Prop) (B : Nat) : Prop where
 dec : ∀ (g n c : Nat) (zs : List Int), n ≤ zs.length → n ≤ c → (∀ x ∈ zs, 0 ≤ x ∧ x < 256) → Dec dec D g n c zs
 keep : ∀ (X : Nat → Prop) (w w' : World), D w → Fr (fun k => B ≤ k ∧ ¬ X k) w w' → D w'
theorem strZs_rng (w : World) (s : ByteArray) : ∀ x ∈ strZs w s, 0 ≤ x ∧ x < 256 := by
 intro x hx
 unfold strZs at hx
 rcases List.mem_append.1 hx with hx | hx
 ·unfold bytesOf at hx
  obtain ⟨u, _, rfl⟩ := List.mem_map.1 hx
  have := u.toNat_lt
  omega
 ·have := (List.mem_replicate.1 hx).2
  omega
set_option maxHeartbeats 2000000 in
set_option maxRecDepth 100000 in
theorem jstring {dec : List Int → Int × Nat} {D : World → Prop} {B b sc : Nat} {X : Nat → Prop} {xs : List Int} (HD : DD dec D B) (s : ByteArray) (w : World) (h : JB 150 B X b xs w) (hD : D w) (hs : s.size ≤ 2147483647) (hl : (xs ++ [34] ++ esc dec s.size (bytesOf s) ++ [34]).length ≤ 140737488355328) :
 Calls Tryz.prog 101 #[.agg #[.pointer (some ⟨b, 0, none⟩), .pointer (some ⟨sc, 0, none⟩)], .string s] w fun e w' => e = .returned (.tuple #[]) ∧ Wrote 150 B X b (xs ++ [34] ++ esc dec s.size (bytesOf s) ++ [34]) w w' ∧ D w' := by
 have hcv := fun (w : World) (s : ByteArray) => Lib.run_convert_string_bytes (P := Tryz.prog) w 9 22 5 s (u := .string) Tryz.underlying9 Tryz.underlying22 Tryz.underlying5
 replace h := Aside0.mk h
 replace hD := Aside0.mk hD
 replace hl := Aside0.mk hl
 go_enter Tryz.func101, Tryz.ntmps101
 go_wp2_with fail
 have hb := below_alloc (Below.refl w.heap.size w) (.cells #[.pointer (some ⟨b, 0, none⟩), .pointer (some ⟨sc, 0, none⟩)] 88)
 have hsz : (w.alloc (.cells #[.pointer (some ⟨b, 0, none⟩), .pointer (some ⟨sc, 0, none⟩)] 88)).heap.size = w.heap.size + 1 := by simp
 generalize w.alloc (.cells #[.pointer (some ⟨b, 0, none⟩), .pointer (some ⟨sc, 0, none⟩)] 88) = w1 at *
 have hb1 := bytesWorld_below w1 s
 have ha1 := BAt.of_string w1 s
 have hr1 := strZs_rng w1 s
 rw [hsz] at ha1
 rw [← strZs_length w1 s]
 have ht1 := strZs_take w1 s
 have hc1 : (strZs w1 s).length ≤ 9223372036854775807 := by rw [strZs_length]; have := grownCap_le_maxLen w1 s.size 0 5 (by unfold maxLen; omega); unfold maxLen at this; omega
 have hle : s.size ≤ (strZs w1 s).length := by rw [strZs_length]; exact grownCap_ge w1 s.size 0 5
 have hb2 := Aside0.mk (below_then hb hb.size hb1)
 have hgl := ha1.lt
 generalize strZs w1 s = z1 at *
 generalize Lib.bytesWorld w1 5 s = w2 at *
 have hJ2 := h.out.re (X' := fun k => X k ∨ k = w.heap.size + 1) (fun k hk => hk.imp id (fun e => by omega)) (fun k hk => by rcases hk with e | e; have := h.out.low k e; have := hb2.out.size; omega; omega) hb2.out
 have hD2 := HD.keep (fun _ => False) w w2 hD.out (Fr.of_below hb2.out)
 have hcall := esc_call w2 (HD.dec (w.heap.size + 1) s.size z1.length z1 hle hle hr1) (HD.keep _) hJ2 ha1 (.inr rfl) hD2 hle hle hc1 hr1 (by rw [ht1]; exact hl.out)
 rw [ht1] at hcall
 refine hcall.mono ?_
 rintro e w3 ⟨rfl, hw3, hD3⟩
 go_wp2
 refine bodyPost_end (results_none rfl _ _ _) rfl ?_
 exact ⟨rfl, Wrote.from hb2.out h.out.low hw3 (fun k hk => .inl hk), hD3⟩
set_option maxHeartbeats 2000000 in
set_option maxRecDepth 100000 in
theorem jwkey {dec : List Int → Int × Nat} {D : World → Prop} {B b ob : Nat} {X : Nat → Prop} {xs : List Int} {cs : Array Value} {t : TypeId} {z : Nat × Nat} (HD : DD dec D B) (s : ByteArray) (w : World) (h : JB 150 B X b xs w) (hX : X ob) (ho : w.heap[ob]? = some (.cells cs t z)) (h0 : cs[0]? = some (.pointer (some ⟨b, 0, none⟩))) (hD : D w) (hs : s.size ≤ 2147483647) (hl : (xs ++ [34] ++ esc dec s.size (bytesOf s) ++ [34]).length + 1 ≤ 140737488355328) :
 Calls Tryz.prog 159 #[.pointer (some ⟨ob, 0, none⟩), .string s] w fun e w' => e = .returned (.tuple #[]) ∧ Wrote 150 B X b (xs ++ [34] ++ esc dec s.size (bytesOf s) ++ [34] ++ [58]) w w' ∧ D w' := by
 have hcv := fun (w : World) (s : ByteArray) => Lib.run_convert_string_bytes (P := Tryz.prog) w 9 22 5 s (u := .string) Tryz.underlying9 Tryz.underlying22 Tryz.underlying5
 have c0 := cell_at ho 0
 rw [h0] at c0
 replace ho := Aside0.mk ho
 replace h := Aside0.mk h
 replace hD := Aside0.mk hD
 replace hl := Aside0.mk hl
 go_enter Tryz.func159, Tryz.ntmps159
 go_wp2_with fail
 have hb1 := bytesWorld_below w s
 have ha1 := BAt.of_string w s
 have hr1 := strZs_rng w s
 rw [← strZs_length w s]
 have ht1 := strZs_take w s
 have hc1 : (strZs w s).length ≤ 9223372036854775807 := by rw [strZs_length]; have := grownCap_le_maxLen w s.size 0 5 (by unfold maxLen; omega); unfold maxLen at this; omega
 have hle : s.size ≤ (strZs w s).length := by rw [strZs_length]; exact grownCap_ge w s.size 0 5
 have hgl := ha1.lt
 generalize strZs w s = z1 at *
 generalize Lib.bytesWorld w 5 s = w2 at *
 have hJ2 := h.out.re (X' := fun k => X k ∨ k = w.heap.size) (fun k hk => hk.imp id (fun e => by omega)) (fun k hk => by rcases hk with e | e; have := h.out.low k e; have := hb1.size; omega; omega) hb1
 have hD2 := HD.keep (fun _ => False) w w2 hD.out (Fr.of_below hb1)
 have hcall := esc_call w2 (HD.dec w.heap.size s.size z1.length z1 hle hle hr1) (HD.keep _) hJ2 ha1 (.inr rfl) hD2 hle hle hc1 hr1 (by rw [ht1]; have := hl.out; omega)
 rw [ht1] at hcall
 refine hcall.mono ?_
 rintro e w3 ⟨rfl, hw3, hD3⟩
 have hw := Wrote.from hb1 h.out.low hw3 (fun k hk => .inl hk)
 have ho3 := hw.2.heap ho.out (fun e => e.2 hX)
 have c3 := cell_at ho3 0
 rw [h0] at c3
 replace hw := Aside0.mk hw
 replace ho3 := Aside0.mk ho3
 clear hcall hw3 hJ2 ha1 hb1 c0
 go_wp2_with fail
 refine (jwr 58 ⟨#[58]⟩ cv58 w3 hw.out.1 (by show _ + 1 ≤ _; exact hl.out)).mono ?_
 rintro e w4 ⟨n, rfl, hw4⟩
 go_wp2
 refine bodyPost_end (results_none rfl _ _ _) rfl ?_
 exact ⟨rfl, hw.out.trans hw4, HD.keep _ _ _ hD3 hw4.2⟩
end H
end Go.Proofs.YtkihaebaccdjdaaGreatDoor
set_option linter.unusedVariables false
set_option linter.unusedSimpArgs false
namespace Go.Proofs.YtkihaebaccdjdaaGreatDoor
open Go.RowKit Go.Proofs.YtkihaebaccdjdaaGreatDoorW.PrintWords Go.Proofs.YtkihaebaccdjdaaGreatDoorW.PrintLast Go.Proofs.YtkihaebaccdjdaaGreatDoorW.PrintMore
open Go.Lib (firstT accLo accHi slowN decodeN)
namespace H
/-! ### utf8.decodeRuneSlow over a block of bytes -/
theorem cell_lt {w : World} {a : Addr} {v : Value} (hc : w.cell? a = some v) : a.block < w.heap.size := by
 rcases Nat.lt_or_ge a.block w.heap.size with h' | h'
 ·exact h'
 ·simp [World.cell?, Array.getElem?_eq_none h'] at hc
theorem cell_al {w : World} {a : Addr} {v : Value} (o : Obj) (hc : w.cell? a = some v) : (w.alloc o).cell? a = some v :=
 ((below_alloc (Below.refl w.heap.size w) o).cell (cell_lt hc)).trans hc
set_option maxHeartbeats 4000000 in
set_option maxRecDepth 1000000 in
theorem decSlow (w : World) (g i m cc x0 x1 x2 x3 : Nat) (hm : 0 < m) (l0 : x0 < 256) (l1 : x1 < 256) (l2 : x2 < 256) (l3 : x3 < 256) (hT : Lib.Utf8Tabs 2 3 w)
 (b0 : w.cell? ⟨g, i, none⟩ = some (.int .u8 x0)) (b1 : 1 < m → w.cell? ⟨g, i + 1, none⟩ = some (.int .u8 x1)) (b2 : 2 < m → w.cell? ⟨g, i + 2, none⟩ = some (.int .u8 x2)) (b3 : 3 < m → w.cell? ⟨g, i + 3, none⟩ = some (.int .u8 x3)) :
 Calls Tryz.prog 233 #[.slice (some ⟨g, i, none⟩) m cc] w fun e w' => e = .returned (.tuple #[.int .i32 (decodeN m x0 x1 x2 x3).1, .int .i64 (decodeN m x0 x1 x2 x3).2]) ∧ Below w.heap.size w w' := by
 have hgl : g < w.heap.size := cell_lt b0
 have hz0 : (0 : Int) < (m : Int) := by omega
 have hz0' : ¬ ((m : Int) < 1) := by omega
 have hc0 := hT.1 x0 (by omega)
 have hres : firstT x0 < 240 → decodeN m x0 x1 x2 x3 = slowN m x0 x1 x2 x3 (firstT x0 % 8) (accLo (firstT x0 / 16)) (accHi (firstT x0 / 16)) :=
  fun h => (Lib.slow_eq _ _ _ _ _ (by omega) (by omega) (by omega) (by omega) h).symm
 rcases Lib.firstT_cases x0 with hX | hX | hX | hX | hX | hX | hX | hX | hX
 ·rw [Lib.ascii_eq _ _ _ _ _ hX]
  rw [hX] at hc0
  clear hres hT hX b1 b2 b3
  go_enter Tryz.func233, Tryz.ntmps233
  go_wp2
  rw [Utf8W.mask240, Utf8W.keep_byte ⟨x0, l0⟩]
  go_ret2
  exact ⟨rfl, Below.refl _ _⟩
 ·rw [Lib.bad_eq _ _ _ _ _ (by omega) hX]
  rw [hX] at hc0
  clear hres hT hX b1 b2 b3
  go_enter Tryz.func233, Tryz.ntmps233
  go_wp2
  rw [Utf8W.mask241, Utf8W.drop_byte ⟨x0, l0⟩]
  go_ret2
  exact ⟨rfl, Below.refl _ _⟩
 all_goals replace hres := hres (by omega)
 ·rw [hX] at hc0 hres
  have ha0 := (hT.2 0 (by omega)).1
  have ha1 := (hT.2 0 (by omega)).2
  simp only [accLo, accHi, Nat.reduceMul, Nat.reduceAdd, Nat.reduceEqDiff, if_true, if_false, Nat.reduceMod, Nat.reduceDiv] at ha0 ha1 hres
  rw [hres]
  clear hres hT hX
  by_cases hn : m < 2
  ·have hnz : (m : Int) < 2 := by omega
   clear b1 b2 b3
   go_enter Tryz.func233, Tryz.ntmps233
   go_wp2
   all_goals (go_ret2; refine ⟨?_, (Below.refl _ _).alloc (Nat.le_refl _) _⟩; (unfold slowN; (repeat' split); all_goals first | (exfalso; omega) | rfl ))
  ·have hz1 : (1 : Int) < (m : Int) := by omega
   have c1 := cell_al (.cells #[.int .u8 128, .int .u8 191] 275) (b1 (by omega))
   clear b1 b2 b3
   go_enter Tryz.func233, Tryz.ntmps233
   go_wp2
   all_goals (go_ret2; refine ⟨?_, (Below.refl _ _).alloc (Nat.le_refl _) _⟩; (unfold slowN; (repeat' split); all_goals first | (exfalso; omega) | rfl ))
 ·rw [hX] at hc0 hres
  have ha0 := (hT.2 1 (by omega)).1
  have ha1 := (hT.2 1 (by omega)).2
  simp only [accLo, accHi, Nat.reduceMul, Nat.reduceAdd, Nat.reduceEqDiff, if_true, if_false, Nat.reduceMod, Nat.reduceDiv] at ha0 ha1 hres
  rw [hres]
  clear hres hT hX
  by_cases hn : m < 3
  ·have hnz : (m : Int) < 3 := by omega
   clear b1 b2 b3
   go_enter Tryz.func233, Tryz.ntmps233
   go_wp2
   all_goals (go_ret2; refine ⟨?_, (Below.refl _ _).alloc (Nat.le_refl _) _⟩; (unfold slowN; (repeat' split); all_goals first | (exfalso; omega) | rfl ))
  ·have hz1 : (1 : Int) < (m : Int) := by omega
   have c1 := cell_al (.cells #[.int .u8 160, .int .u8 191] 275) (b1 (by omega))
   have hz2 : (2 : Int) < (m : Int) := by omega
   have c2 := cell_al (.cells #[.int .u8 160, .int .u8 191] 275) (b2 (by omega))
   clear b1 b2 b3
   go_enter Tryz.func233, Tryz.ntmps233
   go_wp2
   all_goals (go_ret2; refine ⟨?_, (Below.refl _ _).alloc (Nat.le_refl _) _⟩; (unfold slowN; (repeat' split); all_goals first | (exfalso; omega) | rfl ))
 ·rw [hX] at hc0 hres
  have ha0 := (hT.2 0 (by omega)).1
  have ha1 := (hT.2 0 (by omega)).2
  simp only [accLo, accHi, Nat.reduceMul, Nat.reduceAdd, Nat.reduceEqDiff, if_true, if_false, Nat.reduceMod, Nat.reduceDiv] at ha0 ha1 hres
  rw [hres]
  clear hres hT hX
  by_cases hn : m < 3
  ·have hnz : (m : Int) < 3 := by omega
   clear b1 b2 b3
   go_enter Tryz.func233, Tryz.ntmps233
   go_wp2
   all_goals (go_ret2; refine ⟨?_, (Below.refl _ _).alloc (Nat.le_refl _) _⟩; (unfold slowN; (repeat' split); all_goals first | (exfalso; omega) | rfl ))
  ·have hz1 : (1 : Int) < (m : Int) := by omega
   have c1 := cell_al (.cells #[.int .u8 128, .int .u8 191] 275) (b1 (by omega))
   have hz2 : (2 : Int) < (m : Int) := by omega
   have c2 := cell_al (.cells #[.int .u8 128, .int .u8 191] 275) (b2 (by omega))
   clear b1 b2 b3
   go_enter Tryz.func233, Tryz.ntmps233
   go_wp2
   all_goals (go_ret2; refine ⟨?_, (Below.refl _ _).alloc (Nat.le_refl _) _⟩; (unfold slowN; (repeat' split); all_goals first | (exfalso; omega) | rfl ))
 ·rw [hX] at hc0 hres
  have ha0 := (hT.2 2 (by omega)).1
  have ha1 := (hT.2 2 (by omega)).2
  simp only [accLo, accHi, Nat.reduceMul, Nat.reduceAdd, Nat.reduceEqDiff, if_true, if_false, Nat.reduceMod, Nat.reduceDiv] at ha0 ha1 hres
  rw [hres]
  clear hres hT hX
  by_cases hn : m < 3
  ·have hnz : (m : Int) < 3 := by omega
   clear b1 b2 b3
   go_enter Tryz.func233, Tryz.ntmps233
   go_wp2
   all_goals (go_ret2; refine ⟨?_, (Below.refl _ _).alloc (Nat.le_refl _) _⟩; (unfold slowN; (repeat' split); all_goals first | (exfalso; omega) | rfl ))
  ·have hz1 : (1 : Int) < (m : Int) := by omega
   have c1 := cell_al (.cells #[.int .u8 128, .int .u8 159] 275) (b1 (by omega))
   have hz2 : (2 : Int) < (m : Int) := by omega
   have c2 := cell_al (.cells #[.int .u8 128, .int .u8 159] 275) (b2 (by omega))
   clear b1 b2 b3
   go_enter Tryz.func233, Tryz.ntmps233
   go_wp2
   all_goals (go_ret2; refine ⟨?_, (Below.refl _ _).alloc (Nat.le_refl _) _⟩; (unfold slowN; (repeat' split); all_goals first | (exfalso; omega) | rfl ))
 ·rw [hX] at hc0 hres
  have ha0 := (hT.2 3 (by omega)).1
  have ha1 := (hT.2 3 (by omega)).2
  simp only [accLo, accHi, Nat.reduceMul, Nat.reduceAdd, Nat.reduceEqDiff, if_true, if_false, Nat.reduceMod, Nat.reduceDiv] at ha0 ha1 hres
  rw [hres]
  clear hres hT hX
  by_cases hn : m < 4
  ·have hnz : (m : Int) < 4 := by omega
   clear b1 b2 b3
   go_enter Tryz.func233, Tryz.ntmps233
   go_wp2
   all_goals (go_ret2; refine ⟨?_, (Below.refl _ _).alloc (Nat.le_refl _) _⟩; (unfold slowN; (repeat' split); all_goals first | (exfalso; omega) | rfl ))
  ·have hz1 : (1 : Int) < (m : Int) := by omega
   have c1 := cell_al (.cells #[.int .u8 144, .int .u8 191] 275) (b1 (by omega))
   have hz2 : (2 : Int) < (m : Int) := by omega
   have c2 := cell_al (.cells #[.int .u8 144, .int .u8 191] 275) (b2 (by omega))
   have hz3 : (3 : Int) < (m : Int) := by omega
   have c3 := cell_al (.cells #[.int .u8 144, .int .u8 191] 275) (b3 (by omega))
   clear b1 b2 b3
   go_enter Tryz.func233, Tryz.ntmps233
   go_wp2
   all_goals (go_ret2; refine ⟨?_, (Below.refl _ _).alloc (Nat.le_refl _) _⟩; (unfold slowN; (repeat' split); all_goals first | (exfalso; omega) | rfl ))
 ·rw [hX] at hc0 hres
  have ha0 := (hT.2 0 (by omega)).1
  have ha1 := (hT.2 0 (by omega)).2
  simp only [accLo, accHi, Nat.reduceMul, Nat.reduceAdd, Nat.reduceEqDiff, if_true, if_false, Nat.reduceMod, Nat.reduceDiv] at ha0 ha1 hres
  rw [hres]
  clear hres hT hX
  by_cases hn : m < 4
  ·have hnz : (m : Int) < 4 := by omega
   clear b1 b2 b3
   go_enter Tryz.func233, Tryz.ntmps233
   go_wp2
   all_goals (go_ret2; refine ⟨?_, (Below.refl _ _).alloc (Nat.le_refl _) _⟩; (unfold slowN; (repeat' split); all_goals first | (exfalso; omega) | rfl ))
  ·have hz1 : (1 : Int) < (m : Int) := by omega
   have c1 := cell_al (.cells #[.int .u8 128, .int .u8 191] 275) (b1 (by omega))
   have hz2 : (2 : Int) < (m : Int) := by omega
   have c2 := cell_al (.cells #[.int .u8 128, .int .u8 191] 275) (b2 (by omega))
   have hz3 : (3 : Int) < (m : Int) := by omega
   have c3 := cell_al (.cells #[.int .u8 128, .int .u8 191] 275) (b3 (by omega))
   clear b1 b2 b3
   go_enter Tryz.func233, Tryz.ntmps233
   go_wp2
   all_goals (go_ret2; refine ⟨?_, (Below.refl _ _).alloc (Nat.le_refl _) _⟩; (unfold slowN; (repeat' split); all_goals first | (exfalso; omega) | rfl ))
 ·rw [hX] at hc0 hres
  have ha0 := (hT.2 4 (by omega)).1
  have ha1 := (hT.2 4 (by omega)).2
  simp only [accLo, accHi, Nat.reduceMul, Nat.reduceAdd, Nat.reduceEqDiff, if_true, if_false, Nat.reduceMod, Nat.reduceDiv] at ha0 ha1 hres
  rw [hres]
  clear hres hT hX
  by_cases hn : m < 4
  ·have hnz : (m : Int) < 4 := by omega
   clear b1 b2 b3
   go_enter Tryz.func233, Tryz.ntmps233
   go_wp2
   all_goals (go_ret2; refine ⟨?_, (Below.refl _ _).alloc (Nat.le_refl _) _⟩; (unfold slowN; (repeat' split); all_goals first | (exfalso; omega) | rfl ))
  ·have hz1 : (1 : Int) < (m : Int) := by omega
   have c1 := cell_al (.cells #[.int .u8 128, .int .u8 143] 275) (b1 (by omega))
   have hz2 : (2 : Int) < (m : Int) := by omega
   have c2 := cell_al (.cells #[.int .u8 128, .int .u8 143] 275) (b2 (by omega))
   have hz3 : (3 : Int) < (m : Int) := by omega
   have c3 := cell_al (.cells #[.int .u8 128, .int .u8 143] 275) (b3 (by omega))
   clear b1 b2 b3
   go_enter Tryz.func233, Tryz.ntmps233
   go_wp2
   all_goals (go_ret2; refine ⟨?_, (Below.refl _ _).alloc (Nat.le_refl _) _⟩; (unfold slowN; (repeat' split); all_goals first | (exfalso; omega) | rfl ))
end H
end Go.Proofs.YtkihaebaccdjdaaGreatDoor
set_option linter.unusedVariables false
set_option linter.unusedSimpArgs false
namespace Go.Proofs.YtkihaebaccdjdaaGreatDoor
open Go.RowKit Go.Proofs.YtkihaebaccdjdaaGreatDoorW.PrintWords Go.Proofs.YtkihaebaccdjdaaGreatDoorW.PrintLast Go.Proofs.YtkihaebaccdjdaaGreatDoorW.PrintMore
open Go.Lib (firstT accLo accHi slowN decodeN)
namespace H
/-! ### utf8.DecodeRune over a block of bytes: the decoder that the encoders ask for -/
/-- Go's decoder, on numbers. -/
def decL (l : List Int) : Int × Nat :=
 if l.length = 0 then (65533, 0) else (((decodeN l.length (l.getD 0 0).toNat (l.getD 1 0).toNat (l.getD 2 0).toNat (l.getD 3 0).toNat).1 : Nat), (decodeN l.length (l.getD 0 0).toNat (l.getD 1 0).toNat (l.getD 2 0).toNat (l.getD 3 0).toNat).2)
theorem decN_pos (n b0 b1 b2 b3 : Nat) (h : 0 < n) : 1 ≤ (decodeN n b0 b1 b2 b3).2 ∧ (decodeN n b0 b1 b2 b3).2 ≤ n := by
 unfold decodeN
 repeat' split
 all_goals simp only
 all_goals omega
set_option maxHeartbeats 4000000 in
set_option maxRecDepth 1000000 in
theorem decRune (w : World) (g i m cc x0 x1 x2 x3 : Nat) (hm : 0 < m) (l0 : x0 < 256) (l1 : x1 < 256) (l2 : x2 < 256) (l3 : x3 < 256) (hT : Lib.Utf8Tabs 2 3 w)
 (b0 : w.cell? ⟨g, i, none⟩ = some (.int .u8 x0)) (b1 : 1 < m → w.cell? ⟨g, i + 1, none⟩ = some (.int .u8 x1)) (b2 : 2 < m → w.cell? ⟨g, i + 2, none⟩ = some (.int .u8 x2)) (b3 : 3 < m → w.cell? ⟨g, i + 3, none⟩ = some (.int .u8 x3)) :
 Calls Tryz.prog 199 #[.slice (some ⟨g, i, none⟩) m cc] w fun e w' => e = .returned (.tuple #[.int .i32 (decodeN m x0 x1 x2 x3).1, .int .i64 (decodeN m x0 x1 x2 x3).2]) ∧ Below w.heap.size w w' := by
 have hz0 : (0 : Int) < (m : Int) := by omega
 by_cases ha : x0 < 128
 ·have haz : (x0 : Int) < 128 := by omega
  have hd : decodeN m x0 x1 x2 x3 = (x0, 1) := by unfold decodeN; rw [if_pos ha]
  rw [hd]
  clear b1 b2 b3 hT
  go_enter Tryz.func199, Tryz.ntmps199
  go_wp2_with fail
  go_loopg [8] 1 (fun q v8 w' => v8 = .int .i64 0 ∧ q = 1 ∧ w' = w)
  case atStart => exact ⟨rfl, rfl, rfl⟩
  case round =>
   obtain ⟨rfl, rfl, rfl⟩ := hrel
   go_wp2_with fail
   go_ret2
   exact ⟨rfl, Below.refl _ _⟩
 ·have haz : ¬ ((x0 : Int) < 128) := by omega
  have cS := Aside0.mk (decSlow w g i m cc x0 x1 x2 x3 hm l0 l1 l2 l3 hT b0 b1 b2 b3)
  generalize decodeN m x0 x1 x2 x3 = R at cS ⊢
  clear b1 b2 b3 hT
  go_enter Tryz.func199, Tryz.ntmps199
  go_wp2_with fail
  go_loopg [8] 1 (fun q v8 w' => v8 = .int .i64 0 ∧ q = 1 ∧ w' = w)
  case atStart => exact ⟨rfl, rfl, rfl⟩
  case round =>
   obtain ⟨rfl, rfl, rfl⟩ := hrel
   go_wp2_with fail
   refine cS.out.mono ?_
   rintro e w' ⟨rfl, hb⟩
   go_wp2
   go_ret2
   exact ⟨rfl, hb⟩
theorem tabs_fr {S : Nat → Prop} {w w' : World} (h : Lib.Utf8Tabs 2 3 w) (hf : Fr S w w') (h2 : ¬ S 2) (h3 : ¬ S 3) : Lib.Utf8Tabs 2 3 w' := by
 have key : ∀ {a : Addr} {v : Value}, w.cell? a = some v → ¬ S a.block → w'.cell? a = some v := fun {a v} hc hn => by
  have h1 := hf.block a.block (cell_lt hc) hn
  rw [← hc]
  simp only [World.cell?, h1]
 exact ⟨fun c hc => key (h.1 c hc) h2, fun i hi => ⟨key (h.2 i hi).1 h3, key (h.2 i hi).2 h3⟩⟩
theorem seg_getD (zs : List Int) (n i k : Nat) (h : i + k < n) : ((zs.take n).drop i).getD k 0 = zs.getD (i + k) 0 := by
 rw [List.getD_eq_getElem?_getD, List.getD_eq_getElem?_getD, List.getElem?_drop, List.getElem?_take, if_pos h]
theorem decDD (B : Nat) (hB : 4 ≤ B) : DD decL (Lib.Utf8Tabs 2 3) B where
 keep := fun X w w' h hf => tabs_fr h hf (fun h => absurd h.1 (by omega)) (fun h => absurd h.1 (by omega))
 dec := fun g n c zs hn hc hr => by
  have hlen : ∀ i, i < n → ((zs.take n).drop i).length = n - i := fun i hi => by simp; omega
  have hby : ∀ k, 0 ≤ zs.getD k 0 ∧ zs.getD k 0 < 256 := fun k => by
   by_cases hk : k < zs.length
   ·rw [List.getD_eq_getElem?_getD, List.getElem?_eq_getElem hk]; exact hr _ (List.getElem_mem _)
   ·rw [List.getD_eq_getElem?_getD, List.getElem?_eq_none (by omega)]; simp
  have hby2 : ∀ i k, 0 ≤ ((zs.take n).drop i).getD k 0 ∧ ((zs.take n).drop i).getD k 0 < 256 := fun i k => by
   by_cases hk : i + k < n
   ·rw [seg_getD _ _ _ _ hk]; exact hby _
   ·rw [List.getD_eq_getElem?_getD, List.getElem?_eq_none (by simp; omega)]; simp
  refine ⟨fun w i hi hb hT => ?_, fun i hi => ?_, fun w w' h hb => Utf8Tabs_below h hb⟩
  ·have hcell : ∀ k, i + k < n → w.cell? ⟨g, i + k, none⟩ = some (.int .u8 ((((zs.take n).drop i).getD k 0).toNat : Nat)) := fun k hk => by
    rw [hb.cell (i + k) (by omega), seg_getD _ _ _ _ hk]
    have := (hby (i + k)).1
    congr 2; omega
   have hlt : ∀ k, (((zs.take n).drop i).getD k 0).toNat < 256 := fun k => by have := (hby2 i k); omega
   have hd : decL ((zs.take n).drop i) = ((((decodeN (n - i) (((zs.take n).drop i).getD 0 0).toNat (((zs.take n).drop i).getD 1 0).toNat (((zs.take n).drop i).getD 2 0).toNat (((zs.take n).drop i).getD 3 0).toNat).1 : Nat) : Int), (decodeN (n - i) (((zs.take n).drop i).getD 0 0).toNat (((zs.take n).drop i).getD 1 0).toNat (((zs.take n).drop i).getD 2 0).toNat (((zs.take n).drop i).getD 3 0).toNat).2) := by
    unfold decL; rw [hlen i hi, if_neg (by omega)]
   rw [hd]
   exact decRune w g i (n - i) (c - i) _ _ _ _ (by omega) (hlt 0) (hlt 1) (hlt 2) (hlt 3) hT (hcell 0 (by omega)) (fun h => hcell 1 (by omega)) (fun h => hcell 2 (by omega)) (fun h => hcell 3 (by omega))
  ·have hd : (decL ((zs.take n).drop i)).2 = (decodeN (n - i) (((zs.take n).drop i).getD 0 0).toNat (((zs.take n).drop i).getD 1 0).toNat (((zs.take n).drop i).getD 2 0).toNat (((zs.take n).drop i).getD 3 0).toNat).2 := by
    unfold decL; rw [hlen i hi, if_neg (by omega)]
   rw [hd]; exact decN_pos _ _ _ _ _ (by omega)
end H
end Go.Proofs.YtkihaebaccdjdaaGreatDoor
