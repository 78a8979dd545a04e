import Derived.Test.YtkihaebaccdjdaaGreatDoorX9
import Derived.Test.YtkihaebaccdjdaaGreatDoorX10
import Derived.Deep.RegionHeld3
set_option linter.unusedVariables false
set_option linter.unusedSimpArgs false
namespace Go.Proofs.YtkihaebaccdjdaaGreatDoor
open Go.RowKit Go.Proofs.YtkihaebaccdjdaaGreatDoorW.PrintWords Go.Proofs.YtkihaebaccdjdaaGreatDoorW.PrintLast Go.Proofs.YtkihaebaccdjdaaGreatDoorW.PrintMore
open Go.Lib (bytesWorld bytesCells bytesWorld_at_new bytesWorld_at_old bytesWorld_size)
namespace H
/-! ### Value.String, Object.Key -/
/-- The decoder serves every block of bytes, and what it reads stays (DD: said once for the whole encoder). -/
structure DD (dec : List Int → Int × Nat) (D : World → Prop) (B : Nat) : Prop where
 dec : ∀ (g n c : Nat) (zs : List Int), n ≤ zs.length → n ≤ c → (∀ x ∈ zs, 0 ≤ x ∧ x < 256) → Dec dec D g n c zs
 keep : ∀ (X : Nat → Prop) (w w' : World), D w → Fr (fun k => B ≤ k ∧ ¬ X k) w w' → D w'
theorem strZs_rng (w : World) (s : ByteArray) : ∀ x ∈ strZs w s, 0 ≤ x ∧ x < 256 := by
 intro x hx
 unfold strZs at hx
 rcases List.mem_append.1 hx with hx | hx
 ·unfold bytesOf at hx
  obtain ⟨u, _, rfl⟩ := List.mem_map.1 hx
  have := u.toNat_lt
  omega
 ·have := (List.mem_replicate.1 hx).2
  omega
set_option maxHeartbeats 2000000 in
set_option maxRecDepth 100000 in
theorem jstring {dec : List Int → Int × Nat} {D : World → Prop} {B b sc : Nat} {X : Nat → Prop} {xs : List Int} (HD : DD dec D B) (s : ByteArray) (w : World) (h : JB 150 B X b xs w) (hD : D w) (hs : s.size ≤ 2147483647) (hl : (xs ++ [34] ++ esc dec s.size (bytesOf s) ++ [34]).length ≤ 140737488355328) :
 Calls Tryz.prog 101 #[.agg #[.pointer (some ⟨b, 0, none⟩), .pointer (some ⟨sc, 0, none⟩)], .string s] w fun e w' => e = .returned (.tuple #[]) ∧ Wrote 150 B X b (xs ++ [34] ++ esc dec s.size (bytesOf s) ++ [34]) w w' ∧ D w' := by
 have hcv := fun (w : World) (s : ByteArray) => Lib.run_convert_string_bytes (P := Tryz.prog) w 9 22 5 s (u := .string) Tryz.underlying9 Tryz.underlying22 Tryz.underlying5
 replace h := Aside0.mk h
 replace hD := Aside0.mk hD
 replace hl := Aside0.mk hl
 go_enter Tryz.func101, Tryz.ntmps101
 go_wp2_with fail
 have hb := below_alloc (Below.refl w.heap.size w) (.cells #[.pointer (some ⟨b, 0, none⟩), .pointer (some ⟨sc, 0, none⟩)] 88)
 have hsz : (w.alloc (.cells #[.pointer (some ⟨b, 0, none⟩), .pointer (some ⟨sc, 0, none⟩)] 88)).heap.size = w.heap.size + 1 := by simp
 generalize w.alloc (.cells #[.pointer (some ⟨b, 0, none⟩), .pointer (some ⟨sc, 0, none⟩)] 88) = w1 at *
 have hb1 := bytesWorld_below w1 s
 have ha1 := BAt.of_string w1 s
 have hr1 := strZs_rng w1 s
 rw [hsz] at ha1
 rw [← strZs_length w1 s]
 have ht1 := strZs_take w1 s
 have hc1 : (strZs w1 s).length ≤ 9223372036854775807 := by rw [strZs_length]; have := grownCap_le_maxLen w1 s.size 0 5 (by unfold maxLen; omega); unfold maxLen at this; omega
 have hle : s.size ≤ (strZs w1 s).length := by rw [strZs_length]; exact grownCap_ge w1 s.size 0 5
 have hb2 := Aside0.mk (below_then hb hb.size hb1)
 have hgl := ha1.lt
 generalize strZs w1 s = z1 at *
 generalize Lib.bytesWorld w1 5 s = w2 at *
 have hJ2 := h.out.re (X' := fun k => X k ∨ k = w.heap.size + 1) (fun k hk => hk.imp id (fun e => by omega)) (fun k hk => by rcases hk with e | e; have := h.out.low k e; have := hb2.out.size; omega; omega) hb2.out
 have hD2 := HD.keep (fun _ => False) w w2 hD.out (Fr.of_below hb2.out)
 have hcall := esc_call w2 (HD.dec (w.heap.size + 1) s.size z1.length z1 hle hle hr1) (HD.keep _) hJ2 ha1 (.inr rfl) hD2 hle hle hc1 hr1 (by rw [ht1]; exact hl.out)
 rw [ht1] at hcall
 refine hcall.mono ?_
 rintro e w3 ⟨rfl, hw3, hD3⟩
 go_wp2
 refine bodyPost_end (results_none rfl _ _ _) rfl ?_
 exact ⟨rfl, Wrote.from hb2.out h.out.low hw3 (fun k hk => .inl hk), hD3⟩
set_option maxHeartbeats 2000000 in
set_option maxRecDepth 100000 in
theorem jwkey {dec : List Int → Int × Nat} {D : World → Prop} {B b ob : Nat} {X : Nat → Prop} {xs : List Int} {cs : Array Value} {t : TypeId} {z : Nat × Nat} (HD : DD dec D B) (s : ByteArray) (w : World) (h : JB 150 B X b xs w) (hX : X ob) (ho : w.heap[ob]? = some (.cells cs t z)) (h0 : cs[0]? = some (.pointer (some ⟨b, 0, none⟩))) (hD : D w) (hs : s.size ≤ 2147483647) (hl : (xs ++ [34] ++ esc dec s.size (bytesOf s) ++ [34]).length + 1 ≤ 140737488355328) :
 Calls Tryz.prog 159 #[.pointer (some ⟨ob, 0, none⟩), .string s] w fun e w' => e = .returned (.tuple #[]) ∧ Wrote 150 B X b (xs ++ [34] ++ esc dec s.size (bytesOf s) ++ [34] ++ [58]) w w' ∧ D w' := by
 have hcv := fun (w : World) (s : ByteArray) => Lib.run_convert_string_bytes (P := Tryz.prog) w 9 22 5 s (u := .string) Tryz.underlying9 Tryz.underlying22 Tryz.underlying5
 have c0 := cell_at ho 0
 rw [h0] at c0
 replace ho := Aside0.mk ho
 replace h := Aside0.mk h
 replace hD := Aside0.mk hD
 replace hl := Aside0.mk hl
 go_enter Tryz.func159, Tryz.ntmps159
 go_wp2_with fail
 have hb1 := bytesWorld_below w s
 have ha1 := BAt.of_string w s
 have hr1 := strZs_rng w s
 rw [← strZs_length w s]
 have ht1 := strZs_take w s
 have hc1 : (strZs w s).length ≤ 9223372036854775807 := by rw [strZs_length]; have := grownCap_le_maxLen w s.size 0 5 (by unfold maxLen; omega); unfold maxLen at this; omega
 have hle : s.size ≤ (strZs w s).length := by rw [strZs_length]; exact grownCap_ge w s.size 0 5
 have hgl := ha1.lt
 generalize strZs w s = z1 at *
 generalize Lib.bytesWorld w 5 s = w2 at *
 have hJ2 := h.out.re (X' := fun k => X k ∨ k = w.heap.size) (fun k hk => hk.imp id (fun e => by omega)) (fun k hk => by rcases hk with e | e; have := h.out.low k e; have := hb1.size; omega; omega) hb1
 have hD2 := HD.keep (fun _ => False) w w2 hD.out (Fr.of_below hb1)
 have hcall := esc_call w2 (HD.dec w.heap.size s.size z1.length z1 hle hle hr1) (HD.keep _) hJ2 ha1 (.inr rfl) hD2 hle hle hc1 hr1 (by rw [ht1]; have := hl.out; omega)
 rw [ht1] at hcall
 refine hcall.mono ?_
 rintro e w3 ⟨rfl, hw3, hD3⟩
 have hw := Wrote.from hb1 h.out.low hw3 (fun k hk => .inl hk)
 have ho3 := hw.2.heap ho.out (fun e => e.2 hX)
 have c3 := cell_at ho3 0
 rw [h0] at c3
 replace hw := Aside0.mk hw
 replace ho3 := Aside0.mk ho3
 clear hcall hw3 hJ2 ha1 hb1 c0
 go_wp2_with fail
 refine (jwr 58 ⟨#[58]⟩ cv58 w3 hw.out.1 (by show _ + 1 ≤ _; exact hl.out)).mono ?_
 rintro e w4 ⟨n, rfl, hw4⟩
 go_wp2
 refine bodyPost_end (results_none rfl _ _ _) rfl ?_
 exact ⟨rfl, hw.out.trans hw4, HD.keep _ _ _ hD3 hw4.2⟩
end H
end Go.Proofs.YtkihaebaccdjdaaGreatDoor
