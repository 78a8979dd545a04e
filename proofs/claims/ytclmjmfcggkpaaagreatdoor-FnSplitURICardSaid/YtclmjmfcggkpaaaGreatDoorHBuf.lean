import Derived.Test.YtclmjmfcggkpaaaGreatDoorH0
namespace Go.Proofs.YtclmjmfcggkpaaaGreatDoor
open Go.RowKit Go.Proofs.YtclmjmfcggkpaaaGreatDoorW.PrintWords Go.Proofs.YtclmjmfcggkpaaaGreatDoorW.PrintLast Go.Proofs.YtclmjmfcggkpaaaGreatDoorW.PrintMore
namespace H
theorem inf5 : (Tryz.prog.info? 5).map (fun i => (i.zero, i.size, i.bytes)) = some (some (.int .u8 0), 1, 1) := by kernel_rfl

/-- A buffer at block b holds the bytes xs; its row lies behind it. -/
def Buf (w : World) (b : Nat) (xs : List Int) : Prop :=
  ∃ v, w.heap[b]? = some (.cells #[v] 143 (0, 0)) ∧ w.ownsRow (b + 1) 5 1 v xs.length (nums .u8 xs)
theorem Buf.below {w w' : World} {b : Nat} {xs : List Int} (h : Buf w b xs) (hb : Below w.heap.size w w') : Buf w' b xs := by
  obtain ⟨v, h1, h2⟩ := h
  exact ⟨v, (hb.block b (lt_of h1)).trans h1, pw_own_below h2 hb⟩
theorem Buf.lt {w : World} {b : Nat} {xs : List Int} (h : Buf w b xs) : b < w.heap.size := by obtain ⟨v, h1, h2⟩ := h; exact lt_of h1

set_option maxHeartbeats 400000 in
set_option maxRecDepth 100000 in
theorem wb (b : Nat) (xs : List Int) (c : Int) (w : World) (hB : Buf w b xs) (hl : xs.length + 1 ≤ 140737488355328) :
    Calls Tryz.prog 91 #[.pointer (some ⟨b, 0, none⟩), .int .u8 c] w fun e w' => e = .returned .nilIface ∧ Buf w' b (xs ++ [c]) ∧ Below b w w' := by
  obtain ⟨v, hb, ho⟩ := hB
  have hc := cell_of hb
  have hlt : b < w.heap.size := lt_of hb
  have Hb := Aside0.mk hb; clear hb
  have Ho := Aside0.mk ho; clear ho
  go_enter Tryz.func91, Tryz.ntmps91
  go_wp2_with (at_builtin; refine print_append_num (w0 := w) (b + 1) rfl (.tmp 9) (.tmp 11) 104 5 .u8 1 rfl Tryz.underlying104 inf5 (by omega) v xs c rfl rfl Ho.out (Below.refl _ _) (by omega) (by omega) ?_; intro v1 w1 ho1 hb1 hg1 hat1; obtain ⟨A1, c1, rfl⟩ := own_slice ho1; have hB1 := (hb1.block b (by omega)).trans Hb.out; have hc1 := cell_of hB1; have hf1 := free_of hB1 0; have HB1 := Aside0.mk hB1; have HO1 := Aside0.mk ho1; clear hB1 ho1 hg1 hat1)
  go_ret
  exact ⟨rfl, ⟨_, by simpa using heap_set HB1.out 0 _, by simpa using own_set (p := ⟨b, 0, none⟩) HO1.out (fun k hk => by have := own_base HO1.out k hk; show k ≠ b; omega) _⟩, Below.setCell (B := b) (p := ⟨b, 0, none⟩) (hb1.mono (by omega)) (Nat.le_refl _) _⟩

set_option maxHeartbeats 400000 in
set_option maxRecDepth 100000 in
theorem ws (b : Nat) (xs : List Int) (s : ByteArray) (w : World) (hB : Buf w b xs) (hl : xs.length + s.size ≤ 140737488355328) :
    Calls Tryz.prog 92 #[.pointer (some ⟨b, 0, none⟩), .string s] w fun e w' => e = .returned (.tuple #[.int .i64 s.size, .nilIface]) ∧ Buf w' b (xs ++ bytesOf s) ∧ Below b w w' := by
  obtain ⟨v, hb, ho⟩ := hB
  have hc := cell_of hb
  have hlt : b < w.heap.size := lt_of hb
  have Hb := Aside0.mk hb; clear hb
  have Ho := Aside0.mk ho; clear ho
  go_enter Tryz.func92, Tryz.ntmps92
  go_wp2_with (at_builtin; refine print_append_str (w0 := w) (b + 1) rfl (.tmp 10) (.tmp 11) 104 9 5 rfl Tryz.underlying104 Tryz.underlying9 inf5 v xs s rfl rfl Ho.out (Below.refl _ _) (by omega) (by omega) ?_; intro v1 w1 ho1 hb1 hg1; obtain ⟨A1, c1, rfl⟩ := own_slice ho1; have hB1 := (hb1.block b (by omega)).trans Hb.out; have hc1 := cell_of hB1; have hf1 := free_of hB1 0; have HB1 := Aside0.mk hB1; have HO1 := Aside0.mk ho1; clear hB1 ho1 hg1)
  go_ret2
  exact ⟨rfl, ⟨_, by simpa using heap_set HB1.out 0 _, by simpa using own_set (p := ⟨b, 0, none⟩) HO1.out (fun k hk => by have := own_base HO1.out k hk; show k ≠ b; omega) _⟩, Below.setCell (B := b) (p := ⟨b, 0, none⟩) (hb1.mono (by omega)) (Nat.le_refl _) _⟩

set_option maxHeartbeats 400000 in
set_option maxRecDepth 100000 in
theorem bstr (b : Nat) (xs : List Int) (w : World) (hB : Buf w b xs) :
    Calls Tryz.prog 94 #[.pointer (some ⟨b, 0, none⟩)] w fun e w' => e = .returned (.string (strOfNums xs)) ∧ w = w' := by
  obtain ⟨v, hb, ho⟩ := hB
  have hc := cell_of hb
  have hrun := own_string (P := Tryz.prog) Tryz.underlying104 Tryz.underlying5 Tryz.underlying9 ho
  go_enter Tryz.func94, Tryz.ntmps94
  go_wp2
  go_ret
  exact ⟨rfl, rfl⟩
end H
end Go.Proofs.YtclmjmfcggkpaaaGreatDoor
