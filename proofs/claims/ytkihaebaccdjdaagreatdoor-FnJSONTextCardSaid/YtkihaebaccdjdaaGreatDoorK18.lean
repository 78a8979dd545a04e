import Derived.Test.YtkihaebaccdjdaaGreatDoorK17
set_option linter.unusedVariables false
set_option linter.unusedSimpArgs false
namespace Go.Proofs.YtkihaebaccdjdaaGreatDoor
open Go.RowKit Go.Proofs.YtkihaebaccdjdaaGreatDoorW.PrintWords Go.Proofs.YtkihaebaccdjdaaGreatDoorW.PrintLast Go.Proofs.YtkihaebaccdjdaaGreatDoorW.PrintMore
open Go.Lib (firstT accLo accHi slowN decodeN)
namespace H
/-! ### utf8.DecodeRune over a block of bytes: the decoder that the encoders ask for -/
/-- Go's decoder, on numbers. -/
def decL (l : List Int) : Int × Nat :=
  if l.length = 0 then (65533, 0) else (((decodeN l.length (l.getD 0 0).toNat (l.getD 1 0).toNat (l.getD 2 0).toNat (l.getD 3 0).toNat).1 : Nat), (decodeN l.length (l.getD 0 0).toNat (l.getD 1 0).toNat (l.getD 2 0).toNat (l.getD 3 0).toNat).2)
theorem decN_pos (n b0 b1 b2 b3 : Nat) (h : 0 < n) : 1 ≤ (decodeN n b0 b1 b2 b3).2 ∧ (decodeN n b0 b1 b2 b3).2 ≤ n := by
  unfold decodeN
  repeat' split
  all_goals simp only
  all_goals omega
set_option maxHeartbeats 4000000 in
set_option maxRecDepth 1000000 in
theorem decRune (w : World) (g i m cc x0 x1 x2 x3 : Nat) (hm : 0 < m) (l0 : x0 < 256) (l1 : x1 < 256) (l2 : x2 < 256) (l3 : x3 < 256) (hT : Lib.Utf8Tabs 2 3 w)
    (b0 : w.cell? ⟨g, i, none⟩ = some (.int .u8 x0)) (b1 : 1 < m → w.cell? ⟨g, i + 1, none⟩ = some (.int .u8 x1)) (b2 : 2 < m → w.cell? ⟨g, i + 2, none⟩ = some (.int .u8 x2)) (b3 : 3 < m → w.cell? ⟨g, i + 3, none⟩ = some (.int .u8 x3)) :
    Calls Tryz.prog 199 #[.slice (some ⟨g, i, none⟩) m cc] w fun e w' => e = .returned (.tuple #[.int .i32 (decodeN m x0 x1 x2 x3).1, .int .i64 (decodeN m x0 x1 x2 x3).2]) ∧ Below w.heap.size w w' := by
  have hz0 : (0 : Int) < (m : Int) := by omega
  by_cases ha : x0 < 128
  · have haz : (x0 : Int) < 128 := by omega
    have hd : decodeN m x0 x1 x2 x3 = (x0, 1) := by unfold decodeN; rw [if_pos ha]
    rw [hd]
    clear b1 b2 b3 hT
    go_enter Tryz.func199, Tryz.ntmps199
    go_wp2_with fail
    go_loopg [8] 1 (fun q v8 w' => v8 = .int .i64 0 ∧ q = 1 ∧ w' = w)
    case atStart => exact ⟨rfl, rfl, rfl⟩
    case round =>
      obtain ⟨rfl, rfl, rfl⟩ := hrel
      go_wp2_with fail
      go_ret2
      exact ⟨rfl, Below.refl _ _⟩
  · have haz : ¬ ((x0 : Int) < 128) := by omega
    have cS := Aside0.mk (decSlow w g i m cc x0 x1 x2 x3 hm l0 l1 l2 l3 hT b0 b1 b2 b3)
    generalize decodeN m x0 x1 x2 x3 = R at cS ⊢
    clear b1 b2 b3 hT
    go_enter Tryz.func199, Tryz.ntmps199
    go_wp2_with fail
    go_loopg [8] 1 (fun q v8 w' => v8 = .int .i64 0 ∧ q = 1 ∧ w' = w)
    case atStart => exact ⟨rfl, rfl, rfl⟩
    case round =>
      obtain ⟨rfl, rfl, rfl⟩ := hrel
      go_wp2_with fail
      refine cS.out.mono ?_
      rintro e w' ⟨rfl, hb⟩
      go_wp2
      go_ret2
      exact ⟨rfl, hb⟩
theorem tabs_fr {S : Nat → Prop} {w w' : World} (h : Lib.Utf8Tabs 2 3 w) (hf : Fr S w w') (h2 : ¬ S 2) (h3 : ¬ S 3) : Lib.Utf8Tabs 2 3 w' := by
  have key : ∀ {a : Addr} {v : Value}, w.cell? a = some v → ¬ S a.block → w'.cell? a = some v := fun {a v} hc hn => by
    have h1 := hf.block a.block (cell_lt hc) hn
    rw [← hc]
    simp only [World.cell?, h1]
  exact ⟨fun c hc => key (h.1 c hc) h2, fun i hi => ⟨key (h.2 i hi).1 h3, key (h.2 i hi).2 h3⟩⟩
theorem seg_getD (zs : List Int) (n i k : Nat) (h : i + k < n) : ((zs.take n).drop i).getD k 0 = zs.getD (i + k) 0 := by
  rw [List.getD_eq_getElem?_getD, List.getD_eq_getElem?_getD, List.getElem?_drop, List.getElem?_take, if_pos h]
theorem decDD (B : Nat) (hB : 4 ≤ B) : DD decL (Lib.Utf8Tabs 2 3) B where
  keep := fun X w w' h hf => tabs_fr h hf (fun h => absurd h.1 (by omega)) (fun h => absurd h.1 (by omega))
  dec := fun g n c zs hn hc hr => by
    have hlen : ∀ i, i < n → ((zs.take n).drop i).length = n - i := fun i hi => by simp; omega
    have hby : ∀ k, 0 ≤ zs.getD k 0 ∧ zs.getD k 0 < 256 := fun k => by
      by_cases hk : k < zs.length
      · rw [List.getD_eq_getElem?_getD, List.getElem?_eq_getElem hk]; exact hr _ (List.getElem_mem _)
      · rw [List.getD_eq_getElem?_getD, List.getElem?_eq_none (by omega)]; simp
    have hby2 : ∀ i k, 0 ≤ ((zs.take n).drop i).getD k 0 ∧ ((zs.take n).drop i).getD k 0 < 256 := fun i k => by
      by_cases hk : i + k < n
      · rw [seg_getD _ _ _ _ hk]; exact hby _
      · rw [List.getD_eq_getElem?_getD, List.getElem?_eq_none (by simp; omega)]; simp
    refine ⟨fun w i hi hb hT => ?_, fun i hi => ?_, fun w w' h hb => Utf8Tabs_below h hb⟩
    · have hcell : ∀ k, i + k < n → w.cell? ⟨g, i + k, none⟩ = some (.int .u8 ((((zs.take n).drop i).getD k 0).toNat : Nat)) := fun k hk => by
        rw [hb.cell (i + k) (by omega), seg_getD _ _ _ _ hk]
        have := (hby (i + k)).1
        congr 2; omega
      have hlt : ∀ k, (((zs.take n).drop i).getD k 0).toNat < 256 := fun k => by have := (hby2 i k); omega
      have hd : decL ((zs.take n).drop i) = ((((decodeN (n - i) (((zs.take n).drop i).getD 0 0).toNat (((zs.take n).drop i).getD 1 0).toNat (((zs.take n).drop i).getD 2 0).toNat (((zs.take n).drop i).getD 3 0).toNat).1 : Nat) : Int), (decodeN (n - i) (((zs.take n).drop i).getD 0 0).toNat (((zs.take n).drop i).getD 1 0).toNat (((zs.take n).drop i).getD 2 0).toNat (((zs.take n).drop i).getD 3 0).toNat).2) := by
        unfold decL; rw [hlen i hi, if_neg (by omega)]
      rw [hd]
      exact decRune w g i (n - i) (c - i) _ _ _ _ (by omega) (hlt 0) (hlt 1) (hlt 2) (hlt 3) hT (hcell 0 (by omega)) (fun h => hcell 1 (by omega)) (fun h => hcell 2 (by omega)) (fun h => hcell 3 (by omega))
    · have hd : (decL ((zs.take n).drop i)).2 = (decodeN (n - i) (((zs.take n).drop i).getD 0 0).toNat (((zs.take n).drop i).getD 1 0).toNat (((zs.take n).drop i).getD 2 0).toNat (((zs.take n).drop i).getD 3 0).toNat).2 := by
        unfold decL; rw [hlen i hi, if_neg (by omega)]
      rw [hd]; exact decN_pos _ _ _ _ _ (by omega)
end H
end Go.Proofs.YtkihaebaccdjdaaGreatDoor
