import Derived.Test.YtclmjmfcggkpaaaGreatDoorHUne
namespace Go.Proofs.YtclmjmfcggkpaaaGreatDoor
open Go.RowKit Go.Proofs.YtclmjmfcggkpaaaGreatDoorW.PrintWords Go.Proofs.YtclmjmfcggkpaaaGreatDoorW.PrintLast Go.Proofs.YtclmjmfcggkpaaaGreatDoorW.PrintMore
namespace H
set_option maxHeartbeats 400000 in
set_option maxRecDepth 100000 in
theorem ep_call (b : Nat) (path raw : ByteArray) (w : World) (hT : Tab w) (hp : w.cell? ⟨b, 4, none⟩ = some (.string path)) (hr : w.cell? ⟨b, 7, none⟩ = some (.string raw))
    (h0 : raw.toList ≠ []) (hs : raw.size ≤ 140737488351232) (hok : ∀ c ∈ bytesOf raw, pathOk c = true) (hu : unescL (bytesOf raw) = some (bytesOf path)) :
    Calls Tryz.prog 48 #[.pointer (some ⟨b, 0, none⟩)] w fun e w' => e = .returned (.string raw) ∧ Below w.heap.size w w' := by
  have h1 : raw.toList.isEmpty = false := by simpa using h0
  replace hu := Aside0.mk hu
  replace hT := Aside0.mk hT
  replace hok := Aside0.mk hok
  have hlb := World.block_lt_of_cell? w _ hp
  go_enter Tryz.func48, Tryz.ntmps48
  go_wp2_with fail
  refine (validEnc_call raw _ hT.out (by omega) hok.out).mono ?_
  rintro e w' ⟨rfl, rfl⟩
  go_wp2_with fail
  refine (une_call raw _ _ hT.out hs hu.out).mono ?_
  rw [strOf_bytesOf]
  rintro e w1 ⟨rfl, hb1⟩
  have hp1 := (hb1.cell (p := ⟨b, 4, none⟩) hlb).trans hp
  have hr1 := (hb1.cell (p := ⟨b, 7, none⟩) hlb).trans hr
  replace hb1 := Aside0.mk hb1
  go_wp2
  go_ret
  exact ⟨rfl, hb1.out⟩
end H
end Go.Proofs.YtclmjmfcggkpaaaGreatDoor
