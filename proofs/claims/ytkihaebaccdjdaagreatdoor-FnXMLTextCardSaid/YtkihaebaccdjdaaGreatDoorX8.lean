import Derived.Test.YtkihaebaccdjdaaGreatDoorX6
set_option linter.unusedVariables false
set_option linter.unusedSimpArgs false
namespace Go.Proofs.YtkihaebaccdjdaaGreatDoor
open Go.RowKit Go.Proofs.YtkihaebaccdjdaaGreatDoorW.PrintWords Go.Proofs.YtkihaebaccdjdaaGreatDoorW.PrintLast Go.Proofs.YtkihaebaccdjdaaGreatDoorW.PrintMore
namespace H
/-! ### smxml.Buffer -/
set_option maxHeartbeats 400000 in
set_option maxRecDepth 100000 in
theorem xws {B b : Nat} {X : Nat → Prop} {xs : List Int} (s : ByteArray) (w : World) (h : JB 97 B X b xs w) (hl : xs.length + s.size ≤ 140737488355328) :
 Calls Tryz.prog 263 #[.pointer (some ⟨b, 0, none⟩), .string s] w fun e w' => e = .returned (.tuple #[.int .i64 s.size, .nilIface]) ∧ Wrote 97 B X b (xs ++ bytesOf s) w w' := by
 obtain ⟨v, hb, ho, hX⟩ := h.out
 have hc := cell_of hb
 have hlt : b < w.heap.size := lt_of hb
 have hB : B ≤ w.heap.size := by have := h.ge; omega
 have Hb := Aside0.mk hb; clear hb
 have Ho := Aside0.mk ho; clear ho
 have HX := Aside0.mk hX; clear hX
 have HH := Aside0.mk h; clear h
 go_enter Tryz.func263, Tryz.ntmps263
 go_wp2_with (at_builtin; refine app_str B rfl (.tmp 10) (.tmp 11) 22 9 rfl Tryz.underlying22 Tryz.underlying9 inf5 v xs s rfl rfl Ho.out hB (by omega) ?_; intro v1 w1 ho1 hg1 hat1; have hP := HH.out.put_at Hb.out Ho.out HX.out hg1 ho1 hat1; obtain ⟨A1, c1, rfl⟩ := own_slice ho1; have hB1 := (hg1.block b hlt (fun e => own_ne (by decide) Hb.out Ho.out b e.symm rfl)).trans Hb.out; have hc1 := cell_of hB1; have hf1 := free_of hB1 0; have HB1 := Aside0.mk hB1; have HP := Aside0.mk hP; clear hB1 ho1 hg1 hat1 hP)
 go_ret2
 exact ⟨rfl, by simpa using HP.out⟩
set_option maxHeartbeats 400000 in
set_option maxRecDepth 100000 in
theorem xw {B b : Nat} {X : Nat → Prop} {xs : List Int} (A : Option Addr) (n c : Nat) (ys : List Int) (w : World) (h : JB 97 B X b xs w) (hr : ReadsInt w .u8 A n ys) (hl : xs.length + n ≤ 140737488355328) :
 Calls Tryz.prog 261 #[.pointer (some ⟨b, 0, none⟩), .slice A n c] w fun e w' => e = .returned (.tuple #[.int .i64 n, .nilIface]) ∧ Wrote 97 B X b (xs ++ ys) w w' := by
 have Hr := Aside0.mk hr; clear hr
 obtain ⟨v, hb, ho, hX⟩ := h.out
 have hc := cell_of hb
 have hlt : b < w.heap.size := lt_of hb
 have hB : B ≤ w.heap.size := by have := h.ge; omega
 have Hb := Aside0.mk hb; clear hb
 have Ho := Aside0.mk ho; clear ho
 have HX := Aside0.mk hX; clear hX
 have HH := Aside0.mk h; clear h
 go_enter Tryz.func261, Tryz.ntmps261
 go_wp2_with (at_builtin; refine print_append_row (w0 := w) B rfl (.tmp 10) (.tmp 11) 22 5 .u8 1 rfl Tryz.underlying22 inf5 (by omega) v xs ys A n c rfl rfl Ho.out Hr.out (Below.refl _ _) hB (by omega) ?_; intro v1 w1 ho1 hb1 hg1 hat1; have hP := HH.out.put_at Hb.out Ho.out HX.out hg1 ho1 hat1; obtain ⟨A1, c1, rfl⟩ := own_slice ho1; have hB1 := (hg1.block b hlt (fun e => own_ne (by decide) Hb.out Ho.out b e.symm rfl)).trans Hb.out; have hc1 := cell_of hB1; have hf1 := free_of hB1 0; have HB1 := Aside0.mk hB1; have HP := Aside0.mk hP; clear hB1 ho1 hg1 hat1 hP)
 go_ret2
 exact ⟨rfl, by simpa using HP.out⟩
set_option maxHeartbeats 400000 in
set_option maxRecDepth 100000 in
theorem xwr {B b : Nat} {X : Nat → Prop} {xs : List Int} (r : Int) (s : ByteArray) (hcv : ∀ w : World, (convert 21 9 (.int .i32 r)).run Tryz.prog w = .ok (.string s) w) (w : World) (h : JB 97 B X b xs w) (hl : xs.length + s.size ≤ 140737488355328) :
 Calls Tryz.prog 262 #[.pointer (some ⟨b, 0, none⟩), .int .i32 r] w fun e w' => ∃ n, e = .returned (.tuple #[n, .nilIface]) ∧ Wrote 97 B X b (xs ++ bytesOf s) w w' := by
 obtain ⟨v, hb, ho, hX⟩ := h.out
 have hc := cell_of hb
 have hlt : b < w.heap.size := lt_of hb
 have hB : B ≤ w.heap.size := by have := h.ge; omega
 have Hb := Aside0.mk hb; clear hb
 have Ho := Aside0.mk ho; clear ho
 have HX := Aside0.mk hX; clear hX
 have HH := Aside0.mk h; clear h
 go_enter Tryz.func262, Tryz.ntmps262
 obtain ⟨A0, c0, rfl⟩ := own_slice Ho.out
 go_wp2_with (at_builtin; refine app_str B rfl (.tmp 16) (.tmp 18) 22 9 rfl Tryz.underlying22 Tryz.underlying9 inf5 _ xs s rfl rfl Ho.out hB (by omega) ?_; intro v1 w1 ho1 hg1 hat1; have hP := HH.out.put_at Hb.out Ho.out HX.out hg1 ho1 hat1; obtain ⟨A1, c1, rfl⟩ := own_slice ho1; have hB1 := (hg1.block b hlt (fun e => own_ne (by decide) Hb.out Ho.out b e.symm rfl)).trans Hb.out; have hc1 := cell_of hB1; have hf1 := free_of hB1 0; have HB1 := Aside0.mk hB1; have HP := Aside0.mk hP; clear hB1 ho1 hg1 hat1 hP)
 go_ret2
 exact ⟨_, rfl, by simpa using HP.out⟩
set_option maxHeartbeats 400000 in
set_option maxRecDepth 100000 in
theorem xstr {B b : Nat} {X : Nat → Prop} {xs : List Int} (w : World) (h : JB 97 B X b xs w) :
 Calls Tryz.prog 260 #[.pointer (some ⟨b, 0, none⟩)] w fun e w' => e = .returned (.string (strOfNums xs)) ∧ w' = w := by
 obtain ⟨v, hb, ho, _⟩ := h.out
 have hc := cell_of hb
 have hrun := own_string (P := Tryz.prog) Tryz.underlying22 Tryz.underlying5 Tryz.underlying9 ho
 go_enter Tryz.func260, Tryz.ntmps260
 go_wp2
 go_ret
 exact ⟨rfl, rfl⟩
end H
end Go.Proofs.YtkihaebaccdjdaaGreatDoor
set_option linter.unusedVariables false
set_option linter.unusedSimpArgs false
namespace Go.Proofs.YtkihaebaccdjdaaGreatDoor
open Go.RowKit Go.Proofs.YtkihaebaccdjdaaGreatDoorW.PrintWords Go.Proofs.YtkihaebaccdjdaaGreatDoorW.PrintLast Go.Proofs.YtkihaebaccdjdaaGreatDoorW.PrintMore
namespace H
/-! ### smjson.Buffer -/
set_option maxHeartbeats 400000 in
set_option maxRecDepth 100000 in
theorem jwb {B b : Nat} {X : Nat → Prop} {xs : List Int} (c : Int) (w : World) (h : JB 150 B X b xs w) (hl : xs.length + 1 ≤ 140737488355328) :
 Calls Tryz.prog 197 #[.pointer (some ⟨b, 0, none⟩), .int .u8 c] w fun e w' => e = .returned .nilIface ∧ Wrote 150 B X b (xs ++ [c]) w w' := by
 obtain ⟨v, hb, ho, hX⟩ := h.out
 have hc := cell_of hb
 have hlt : b < w.heap.size := lt_of hb
 have hB : B ≤ w.heap.size := by have := h.ge; omega
 have Hb := Aside0.mk hb; clear hb
 have Ho := Aside0.mk ho; clear ho
 have HX := Aside0.mk hX; clear hX
 have HH := Aside0.mk h; clear h
 go_enter Tryz.func197, Tryz.ntmps197
 go_wp2_with (at_builtin; refine print_append_num (w0 := w) B rfl (.tmp 9) (.tmp 11) 22 5 .u8 1 rfl Tryz.underlying22 inf5 (by omega) v xs c rfl rfl Ho.out (Below.refl _ _) hB (by omega) ?_; intro v1 w1 ho1 hb1 hg1 hat1; have hP := HH.out.put_at Hb.out Ho.out HX.out hg1 ho1 hat1; obtain ⟨A1, c1, rfl⟩ := own_slice ho1; have hB1 := (hg1.block b hlt (fun e => own_ne (by decide) Hb.out Ho.out b e.symm rfl)).trans Hb.out; have hc1 := cell_of hB1; have hf1 := free_of hB1 0; have HB1 := Aside0.mk hB1; have HP := Aside0.mk hP; clear hB1 ho1 hg1 hat1 hP)
 go_ret
 exact ⟨rfl, by simpa using HP.out⟩
set_option maxHeartbeats 400000 in
set_option maxRecDepth 100000 in
theorem jws {B b : Nat} {X : Nat → Prop} {xs : List Int} (s : ByteArray) (w : World) (h : JB 150 B X b xs w) (hl : xs.length + s.size ≤ 140737488355328) :
 Calls Tryz.prog 155 #[.pointer (some ⟨b, 0, none⟩), .string s] w fun e w' => e = .returned (.tuple #[.int .i64 s.size, .nilIface]) ∧ Wrote 150 B X b (xs ++ bytesOf s) w w' := by
 obtain ⟨v, hb, ho, hX⟩ := h.out
 have hc := cell_of hb
 have hlt : b < w.heap.size := lt_of hb
 have hB : B ≤ w.heap.size := by have := h.ge; omega
 have Hb := Aside0.mk hb; clear hb
 have Ho := Aside0.mk ho; clear ho
 have HX := Aside0.mk hX; clear hX
 have HH := Aside0.mk h; clear h
 go_enter Tryz.func155, Tryz.ntmps155
 go_wp2_with (at_builtin; refine app_str B rfl (.tmp 10) (.tmp 11) 22 9 rfl Tryz.underlying22 Tryz.underlying9 inf5 v xs s rfl rfl Ho.out hB (by omega) ?_; intro v1 w1 ho1 hg1 hat1; have hP := HH.out.put_at Hb.out Ho.out HX.out hg1 ho1 hat1; obtain ⟨A1, c1, rfl⟩ := own_slice ho1; have hB1 := (hg1.block b hlt (fun e => own_ne (by decide) Hb.out Ho.out b e.symm rfl)).trans Hb.out; have hc1 := cell_of hB1; have hf1 := free_of hB1 0; have HB1 := Aside0.mk hB1; have HP := Aside0.mk hP; clear hB1 ho1 hg1 hat1 hP)
 go_ret2
 exact ⟨rfl, by simpa using HP.out⟩
set_option maxHeartbeats 400000 in
set_option maxRecDepth 100000 in
theorem jw {B b : Nat} {X : Nat → Prop} {xs : List Int} (A : Option Addr) (n c : Nat) (ys : List Int) (w : World) (h : JB 150 B X b xs w) (hr : ReadsInt w .u8 A n ys) (hl : xs.length + n ≤ 140737488355328) :
 Calls Tryz.prog 152 #[.pointer (some ⟨b, 0, none⟩), .slice A n c] w fun e w' => e = .returned (.tuple #[.int .i64 n, .nilIface]) ∧ Wrote 150 B X b (xs ++ ys) w w' := by
 have Hr := Aside0.mk hr; clear hr
 obtain ⟨v, hb, ho, hX⟩ := h.out
 have hc := cell_of hb
 have hlt : b < w.heap.size := lt_of hb
 have hB : B ≤ w.heap.size := by have := h.ge; omega
 have Hb := Aside0.mk hb; clear hb
 have Ho := Aside0.mk ho; clear ho
 have HX := Aside0.mk hX; clear hX
 have HH := Aside0.mk h; clear h
 go_enter Tryz.func152, Tryz.ntmps152
 go_wp2_with (at_builtin; refine print_append_row (w0 := w) B rfl (.tmp 10) (.tmp 11) 22 5 .u8 1 rfl Tryz.underlying22 inf5 (by omega) v xs ys A n c rfl rfl Ho.out Hr.out (Below.refl _ _) hB (by omega) ?_; intro v1 w1 ho1 hb1 hg1 hat1; have hP := HH.out.put_at Hb.out Ho.out HX.out hg1 ho1 hat1; obtain ⟨A1, c1, rfl⟩ := own_slice ho1; have hB1 := (hg1.block b hlt (fun e => own_ne (by decide) Hb.out Ho.out b e.symm rfl)).trans Hb.out; have hc1 := cell_of hB1; have hf1 := free_of hB1 0; have HB1 := Aside0.mk hB1; have HP := Aside0.mk hP; clear hB1 ho1 hg1 hat1 hP)
 go_ret2
 exact ⟨rfl, by simpa using HP.out⟩
set_option maxHeartbeats 400000 in
set_option maxRecDepth 100000 in
theorem jwr {B b : Nat} {X : Nat → Prop} {xs : List Int} (r : Int) (s : ByteArray) (hcv : ∀ w : World, (convert 21 9 (.int .i32 r)).run Tryz.prog w = .ok (.string s) w) (w : World) (h : JB 150 B X b xs w) (hl : xs.length + s.size ≤ 140737488355328) :
 Calls Tryz.prog 158 #[.pointer (some ⟨b, 0, none⟩), .int .i32 r] w fun e w' => ∃ n, e = .returned (.tuple #[n, .nilIface]) ∧ Wrote 150 B X b (xs ++ bytesOf s) w w' := by
 obtain ⟨v, hb, ho, hX⟩ := h.out
 have hc := cell_of hb
 have hlt : b < w.heap.size := lt_of hb
 have hB : B ≤ w.heap.size := by have := h.ge; omega
 have Hb := Aside0.mk hb; clear hb
 have Ho := Aside0.mk ho; clear ho
 have HX := Aside0.mk hX; clear hX
 have HH := Aside0.mk h; clear h
 go_enter Tryz.func158, Tryz.ntmps158
 obtain ⟨A0, c0, rfl⟩ := own_slice Ho.out
 go_wp2_with (at_builtin; refine app_str B rfl (.tmp 16) (.tmp 18) 22 9 rfl Tryz.underlying22 Tryz.underlying9 inf5 _ xs s rfl rfl Ho.out hB (by omega) ?_; intro v1 w1 ho1 hg1 hat1; have hP := HH.out.put_at Hb.out Ho.out HX.out hg1 ho1 hat1; obtain ⟨A1, c1, rfl⟩ := own_slice ho1; have hB1 := (hg1.block b hlt (fun e => own_ne (by decide) Hb.out Ho.out b e.symm rfl)).trans Hb.out; have hc1 := cell_of hB1; have hf1 := free_of hB1 0; have HB1 := Aside0.mk hB1; have HP := Aside0.mk hP; clear hB1 ho1 hg1 hat1 hP)
 go_ret2
 exact ⟨_, rfl, by simpa using HP.out⟩
set_option maxHeartbeats 400000 in
set_option maxRecDepth 100000 in
theorem jstr {B b : Nat} {X : Nat → Prop} {xs : List Int} (w : World) (h : JB 150 B X b xs w) :
 Calls Tryz.prog 102 #[.pointer (some ⟨b, 0, none⟩)] w fun e w' => e = .returned (.string (strOfNums xs)) ∧ w' = w := by
 obtain ⟨v, hb, ho, _⟩ := h.out
 have hc := cell_of hb
 have hrun := own_string (P := Tryz.prog) Tryz.underlying22 Tryz.underlying5 Tryz.underlying9 ho
 go_enter Tryz.func102, Tryz.ntmps102
 go_wp2
 go_ret
 exact ⟨rfl, rfl⟩
end H
end Go.Proofs.YtkihaebaccdjdaaGreatDoor
