import Derived.Test.YtclmjmfcggkpaaaGreatDoorM10
namespace Go.Proofs.YtclmjmfcggkpaaaGreatDoor
open Go.RowKit Go.Proofs.YtclmjmfcggkpaaaGreatDoorW.PrintWords Go.Proofs.YtclmjmfcggkpaaaGreatDoorW.PrintLast Go.Proofs.YtclmjmfcggkpaaaGreatDoorW.PrintMore
namespace H
/-! ### The table of package net/url -/
def tabL : List Int := [0, 0, 0, 0, 0, 0, 0, 0, 0, 0, 0, 0, 0, 0, 0, 0, 0, 0, 0, 0, 0, 0, 0, 0, 0, 0, 0, 0, 0, 0, 0, 0, 0, 76, 12, 0, 95, 0, 95, 12, 76, 76, 76, 95, 93, 127, 127, 65, 255, 255, 255, 255, 255, 255, 255, 255, 255, 255, 79, 93, 12, 95, 12, 64, 67, 255, 255, 255, 255, 255, 255, 127, 127, 127, 127, 127, 127, 127, 127, 127, 127, 127, 127, 127, 127, 127, 127, 127, 127, 127, 127, 12, 0, 12, 0, 127, 0, 255, 255, 255, 255, 255, 255, 127, 127, 127, 127, 127, 127, 127, 127, 127, 127, 127, 127, 127, 127, 127, 127, 127, 127, 127, 127, 0, 0, 0, 127, 0, 0, 0, 0, 0, 0, 0, 0, 0, 0, 0, 0, 0, 0, 0, 0, 0, 0, 0, 0, 0, 0, 0, 0, 0, 0, 0, 0, 0, 0, 0, 0, 0, 0, 0, 0, 0, 0, 0, 0, 0, 0, 0, 0, 0, 0, 0, 0, 0, 0, 0, 0, 0, 0, 0, 0, 0, 0, 0, 0, 0, 0, 0, 0, 0, 0, 0, 0, 0, 0, 0, 0, 0, 0, 0, 0, 0, 0, 0, 0, 0, 0, 0, 0, 0, 0, 0, 0, 0, 0, 0, 0, 0, 0, 0, 0, 0, 0, 0, 0, 0, 0, 0, 0, 0, 0, 0, 0, 0, 0, 0, 0, 0, 0, 0, 0, 0, 0, 0, 0, 0, 0, 0, 0, 0, 0, 0, 0, 0]
def tab (c : Nat) : Int := tabL.getD c 0
/-- The table's cells are laid in the world. -/
def Tab (w : World) : Prop := ∀ c : Nat, c < 256 → w.cell? ⟨1, c, none⟩ = some (.int .u8 (tab c))
theorem Tab.lt {w : World} (h : Tab w) : 1 < w.heap.size := World.block_lt_of_cell? w _ (h 0 (by omega))
theorem Tab.below {w w1 : World} (h : Tab w) {B : Nat} (hb : Below B w w1) (hB : 1 < B) : Tab w1 := fun c hc => by rw [hb.cell (p := ⟨1, c, none⟩) hB]; exact h c hc
theorem Tab.fr {S : Nat → Prop} {w w1 : World} (h : Tab w) (hb : Fr S w w1) (hB : ¬ S 1) : Tab w1 := fun c hc => by
  rw [World.cell?_of_block (w := w) (hb.block 1 h.lt hB)]; exact h c hc
set_option maxRecDepth 100000 in
theorem tab_range (c : Nat) : 0 ≤ tab c ∧ tab c ≤ 255 := by
  have h : ∀ c : Nat, c < 256 → 0 ≤ tab c ∧ tab c ≤ 255 := by decide +kernel
  by_cases hc : c < 256
  · exact h c hc
  · have : tab c = 0 := by unfold tab; rw [List.getD_eq_getElem?_getD, List.getElem?_eq_none (by rw [show tabL.length = 256 from by decide]; omega)]; rfl
    omega
/-- What must be escaped, by mode. -/
def should (c : Int) (m : Int) : Bool := Go.bits .and .u8 (tab c.toNat) m == 0
def hexB (c : Int) : Bool := Go.bits .and .u8 (tab c.toNat) 128 != 0
set_option maxHeartbeats 400000 in
set_option maxRecDepth 100000 in
theorem should_call (c m : Int) (w : World) (hT : Tab w) (h0 : 0 ≤ c) (h1 : c ≤ 255) :
    Calls Tryz.prog 133 #[.int .u8 c, .int .u8 m] w fun e w' => e = .returned (.bool (should c m)) ∧ w = w' := by
  obtain ⟨n, rfl⟩ := Int.eq_ofNat_of_zero_le h0
  have hc := hT n (by omega)
  have hr := tab_range n
  clear hT
  go_enter Tryz.func133, Tryz.ntmps133
  go_wp2
  go_ret
  exact ⟨rfl, rfl⟩
set_option maxHeartbeats 400000 in
set_option maxRecDepth 100000 in
theorem ishex_call (c : Int) (w : World) (hT : Tab w) (h0 : 0 ≤ c) (h1 : c ≤ 255) :
    Calls Tryz.prog 134 #[.int .u8 c] w fun e w' => e = .returned (.bool (hexB c)) ∧ w = w' := by
  obtain ⟨n, rfl⟩ := Int.eq_ofNat_of_zero_le h0
  have hc := hT n (by omega)
  have hr := tab_range n
  clear hT
  go_enter Tryz.func134, Tryz.ntmps134
  go_wp2
  go_ret
  exact ⟨rfl, rfl⟩
/-- What may stand in a path that is told escaped. -/
def pathOk (c : Int) : Bool := unres c || c == 47 || c == 37
theorem pathOk_should (c : Int) (h0 : 0 ≤ c) (h1 : c ≤ 255) (h : pathOk c = true) (hp : c ≠ 37) : should c 1 = false := by
  have : ∀ n : Nat, n < 256 → pathOk (n : Int) = true → (n : Int) ≠ 37 → should (n : Int) 1 = false := by decide +kernel
  obtain ⟨n, rfl⟩ := Int.eq_ofNat_of_zero_le h0
  exact this n (by omega) h hp
set_option maxHeartbeats 1000000 in
set_option maxRecDepth 100000 in
theorem validEnc_call (s : ByteArray) (w : World) (hT : Tab w) (hs : s.size ≤ 140737488355328) (hok : ∀ c ∈ bytesOf s, pathOk c = true) :
    Calls Tryz.prog 85 #[.string s, .int .u8 1] w fun e w' => e = .returned (.bool true) ∧ w = w' := by
  replace hT := Aside0.mk hT
  replace hok := Aside0.mk hok
  go_enter Tryz.func85, Tryz.ntmps85
  go_wp2_with fail
  go_loop [5] (fun v5 => ∃ k : Nat, k ≤ s.size ∧ v5 = .int .i64 k) (fun v5 => s.size - (intOf v5).toNat)
  case atStart => exact ⟨0, Nat.zero_le _, rfl⟩
  case round =>
    obtain ⟨k, hk, rfl⟩ := hrel
    by_cases hlt : k < s.size
    · have hx : bt s k = ((s[k]'hlt).toNat : Int) := by simp [bt, hlt]
      have hr := bt_range s (k : Int)
      have hm : pathOk (bt s k) = true := hok.out _ (by
        rw [← rd_bytesOf, rd, Int.toNat_natCast, List.getD_eq_getElem?_getD, List.getElem?_eq_getElem (by rw [bytesOf_length]; exact hlt)]
        exact List.getElem_mem _)
      rw [hx] at hr hm
      clear hx
      have hsh : ((s[k]'hlt).toNat : Int) ≠ 37 → should ((s[k]'hlt).toNat : Int) 1 = false := pathOk_should _ hr.1 hr.2 hm
      clear hm
      by_cases h37 : ((s[k]'hlt).toNat : Int) = 37
      · clear hsh
        go_wp2
        go_round
        case rel => exact ⟨k + 1, by omega, by go_num⟩
        case measure => simp [intOf]; omega
      · replace hsh := Aside0.mk (hsh h37)
        go_wp2_with (go_at_call 133; refine (should_call ((s[k]'hlt).toNat : Int) 1 _ hT.out hr.1 hr.2).mono ?_; rw [hsh.out]; rintro e w' ⟨rfl, rfl⟩)
        all_goals
          go_round
          case rel => exact ⟨k + 1, by omega, by go_num⟩
          case measure => simp [intOf]; omega
    · go_wp2
      go_ret
      exact ⟨rfl, rfl⟩
end H
end Go.Proofs.YtclmjmfcggkpaaaGreatDoor
