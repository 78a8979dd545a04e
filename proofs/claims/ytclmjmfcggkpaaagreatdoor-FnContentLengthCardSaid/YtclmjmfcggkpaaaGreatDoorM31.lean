import Derived.Test.YtclmjmfcggkpaaaGreatDoorM29
import Derived.Test.YtclmjmfcggkpaaaGreatDoorM30
import Derived.Lib.ParseIntB
import Derived.Lib.ItoaLen
set_option linter.unusedVariables false
set_option linter.unusedSimpArgs false
namespace Go.Proofs.YtclmjmfcggkpaaaGreatDoor
open Go.RowKit Go.Proofs.YtclmjmfcggkpaaaGreatDoorW.PrintWords Go.Proofs.YtclmjmfcggkpaaaGreatDoorW.PrintLast Go.Proofs.YtclmjmfcggkpaaaGreatDoorW.PrintMore
open PX
open Go.ChangeMaps (setBlock)
namespace HH
open H
/-! ### An encoder with headers -/
theorem parseM_app (M : Nat) (r : List UInt8) : ∀ (l : List UInt8) (acc a : Nat), Lib.parseUintM M acc l = .ok a → Lib.parseUintM M acc (l ++ r) = Lib.parseUintM M a r := by
  intro l
  induction l with
  | nil => intro acc a h; rw [Lib.parseUintM] at h; injection h with h; subst h; rfl
  | cons c l ih =>
    intro acc a h
    rw [List.cons_append, Lib.parseUintM]
    rw [Lib.parseUintM] at h
    split at h
    · rename_i h1
      rw [if_pos h1]
      split at h
      · cases h
      · rename_i h2
        rw [if_neg h2]
        split at h
        · cases h
        · rename_i h3
          rw [if_neg h3]
          exact ih _ _ h
    · cases h
theorem parse_dec (M : Nat) (hM : M < 18446744073709551616) : ∀ (n u : Nat), u ≤ n → u ≤ M → Lib.parseUintM M 0 (Lib.decDigits u) = .ok u := by
  intro n
  induction n with
  | zero =>
    intro u hu _
    obtain rfl : u = 0 := by omega
    rw [Lib.decDigits_one (by omega)]
    simp [Lib.parseUintM]
  | succ n ih =>
    intro u hu hm
    by_cases h : u < 10
    · rw [Lib.decDigits_one h]
      have e : (UInt8.ofNat (48 + u)).toNat = 48 + u := by simp; omega
      rw [Lib.parseUintM, e, if_pos (by omega), if_neg (by omega), if_neg (by omega), Lib.parseUintM]
      congr 1
      omega
    · rw [Lib.decDigits, dif_neg h, parseM_app M _ _ _ _ (ih (u / 10) (by omega) (by omega))]
      have e : (UInt8.ofNat (48 + u % 10)).toNat = 48 + u % 10 := by simp; omega
      rw [Lib.parseUintM, e, if_pos (by omega), if_neg (by omega), if_neg (by omega), Lib.parseUintM]
      congr 1
      omega
theorem dec_head (u : Nat) : ∃ c r, Lib.decDigits u = c :: r ∧ 48 ≤ c.toNat ∧ c.toNat ≤ 57 := by
  induction u using Nat.strongRecOn with
  | _ u ih =>
    by_cases h : u < 10
    · refine ⟨_, _, Lib.decDigits_one h, ?_, ?_⟩ <;> (simp; omega)
    · obtain ⟨c, r, h1, h2, h3⟩ := ih (u / 10) (by omega)
      exact ⟨c, r ++ [UInt8.ofNat (48 + u % 10)], by rw [Lib.decDigits, dif_neg h, h1]; rfl, h2, h3⟩
theorem parseInt_dec (n : Int) (h0 : 0 ≤ n) (h1 : n ≤ 9223372036854775807) : Lib.parseIntB 64 (decS n).data.toList = .ok n := by
  obtain ⟨u, rfl⟩ := Int.eq_ofNat_of_zero_le h0
  have e : (decS (u : Int)).data.toList = Lib.decDigits u := by
    unfold decS
    rw [Lib.itoa_nonneg]
  rw [e]
  obtain ⟨c, r, hc, h2, h3⟩ := dec_head u
  have hp := parse_dec (2 ^ 64 - 1) (by decide) u u (Nat.le_refl _) (by omega)
  have hne : Lib.decDigits u ≠ [] := by rw [hc]; simp
  unfold Lib.parseIntB
  rw [hc]
  simp only
  rw [if_neg (by omega), ← hc]
  unfold Lib.parseUintB
  rw [if_neg hne, hp]
  simp only
  rw [if_neg (by omega), if_neg (by omega), if_neg (by omega)]
theorem decS_size (n : Int) (h0 : -9223372036854775808 ≤ n) (h1 : n ≤ 9223372036854775807) : (decS n).size ≤ 21 := by
  have := Lib.itoa_length_le n h0 h1
  show (Lib.itoa n).toArray.size ≤ 21
  simpa using this
theorem decS_pos (n : Int) (h0 : 0 ≤ n) : 0 < (decS n).size := by
  obtain ⟨u, rfl⟩ := Int.eq_ofNat_of_zero_le h0
  show 0 < (Lib.itoa (u : Int)).toArray.size
  rw [Lib.itoa_nonneg]
  obtain ⟨c, r, hc, _⟩ := dec_head u
  rw [hc]; simp
/-- The encoder eb: path p, raw path r, a query's map, a header map (made from C on). -/
def EncK (C eb qm mh : Nat) (p r : List Int) (w : World) : Prop :=
  ∃ (g g2 : Nat) (z1 z2 : List Int), w.heap[eb]? = some (.cells #[.slice (some ⟨g, 0, none⟩) p.length z1.length, .slice (some ⟨g2, 0, none⟩) r.length z2.length, .slice none 0 0, .map (some qm), .map (some mh)] 131 (0, 0)) ∧
    BAt w g z1 ∧ p.length ≤ z1.length ∧ z1.take p.length = p ∧ z1.length ≤ 9223372036854775807 ∧ BAt w g2 z2 ∧ r.length ≤ z2.length ∧ z2.take r.length = r ∧ z2.length ≤ 9223372036854775807 ∧ g < C ∧ g2 < C ∧ g ≠ g2 ∧ qm < C ∧ C ≤ eb ∧ w.heap[qm]? = some (.map #[] 0)
theorem EncK.fr {C eb qm mh : Nat} {p r : List Int} {w w' : World} {S : Nat → Prop} (h : EncK C eb qm mh p r w) (hf : Fr S w w') (hS : ∀ k, S k → C ≤ k ∧ k ≠ eb) : EncK C eb qm mh p r w' := by
  obtain ⟨g, g2, z1, z2, h1, h2, h3, h4, h5, h6, h7, h8, h9, h10, h11, h12, h13, h14, h15⟩ := h
  exact ⟨g, g2, z1, z2, hf.heap h1 (fun e => (hS _ e).2 rfl), h2.fr hf (fun e => by have := (hS _ e).1; omega), h3, h4, h5, h6.fr hf (fun e => by have := (hS _ e).1; omega), h7, h8, h9, h10, h11, h12, h13, h14, hf.heap h15 (fun e => by have := (hS _ e).1; omega)⟩
theorem EncK.calm {C eb qm mh : Nat} {p r : List Int} {w w' : World} (h : EncK C eb qm mh p r w) (hb : Below w.heap.size w w') : EncK C eb qm mh p r w' :=
  h.fr (Fr.of_below (S := fun _ => False) hb) (fun _ h => h.elim)
theorem EncK.hdr {C eb qm mh : Nat} {p r : List Int} {w : World} (h : EncK C eb qm mh p r w) : w.cell? ⟨eb, 4, none⟩ = some (.map (some mh)) := by
  obtain ⟨g, g2, z1, z2, h1, _⟩ := h
  rw [cell_at h1]; simp
theorem EncK.lt {C eb qm mh : Nat} {p r : List Int} {w : World} (h : EncK C eb qm mh p r w) : eb < w.heap.size ∧ C ≤ eb := by
  obtain ⟨g, g2, z1, z2, h1, h2, h3, h4, h5, h6, h7, h8, h9, h10, h11, h12, h13, h14, h15⟩ := h
  exact ⟨lt_of h1, h14⟩
set_option maxHeartbeats 2000000 in
set_option maxRecDepth 100000 in
theorem newRawH_call {B m clock : Nat} {X : Nat → Prop} {rs : List MR} (path raw : ByteArray) (w : World) (H : HMr B X m rs clock w) (hx : ∀ r ∈ rs, r.xs.length ≤ 1000000) (hp : path.size ≤ 140737488355328) (hr : raw.size ≤ 140737488355328) :
    Calls Tryz.prog 69 #[.string path, .string raw, .string ⟨#[]⟩, .map (some m)] w fun e w' =>
      ∃ C eb qm mh, e = .returned (.tuple #[.pointer (some ⟨eb, 0, none⟩), .nilIface]) ∧ EncK C eb qm mh (bytesOf path) (bytesOf raw) w' ∧ HMq C (fun k => k = eb) mh rs.length (lk (rs.map MR.hd)) w' ∧ w.heap.size ≤ C ∧ Below w.heap.size w w' := by
  have hcv := fun (w : World) (s : ByteArray) => Lib.run_convert_string_bytes (P := Tryz.prog) w 9 104 5 s (u := .string) Tryz.underlying9 Tryz.underlying104 Tryz.underlying5
  go_enter Tryz.func69, Tryz.ntmps69
  go_wp2_with fail
  refine (pq_call _).mono ?_
  rintro e w1 ⟨rfl, h1, h2⟩
  go_wp2_with fail
  have hb1 := bytesWorld_below w1 path
  have ha1 := BAt.of_string w1 path
  rw [← strZs_length w1 path]
  have ht1 := strZs_take w1 path
  have hc1 : (strZs w1 path).length ≤ 9223372036854775807 := by rw [strZs_length]; have := grownCap_le_maxLen w1 path.size 0 5 (by unfold maxLen; omega); unfold maxLen at this; omega
  generalize strZs w1 path = z1 at *
  generalize hw2 : Lib.bytesWorld w1 5 path = w2 at *
  have hb2 := bytesWorld_below w2 raw
  have ha2 := BAt.of_string w2 raw
  rw [← strZs_length w2 raw]
  have ht2 := strZs_take w2 raw
  have hc2 : (strZs w2 raw).length ≤ 9223372036854775807 := by rw [strZs_length]; have := grownCap_le_maxLen w2 raw.size 0 5 (by unfold maxLen; omega); unfold maxLen at this; omega
  generalize strZs w2 raw = z2 at *
  generalize hw3 : Lib.bytesWorld w2 5 raw = w3 at *
  have F1 : Fr (fun _ => False) w w1 := Fr.of_below h2
  have F2 : Fr (fun _ => False) w1 w2 := Fr.of_below hb1
  have F3 : Fr (fun _ => False) w2 w3 := Fr.of_below hb2
  have F13 := (F1.trans F2 (fun _ _ h => h)).trans F3 (fun _ _ h => h)
  refine (clone_call w3 (H.fr F13 (fun h => h) (fun _ _ _ _ h => h)) hx (fun _ => False) (fun _ h => h.elim)).mono ?_
  rintro e w4 ⟨rfl, h4, h5⟩
  have F4 : Fr (fun _ => False) w3 w4 := Fr.of_below h5
  go_wp2
  go_ret2
  have F5 : Fr (fun _ => False) w4 (w4.alloc (.cells #[.slice (some ⟨w1.heap.size, 0, none⟩) path.size z1.length, .slice (some ⟨w2.heap.size, 0, none⟩) raw.size z2.length, .slice none 0 0, .map (some w.heap.size), .map (some w3.heap.size)] 131)) := Fr.alloc (Fr.refl _ _) _
  have F45 := F4.trans F5 (fun _ _ h => h)
  have F15 := F13.trans F45 (fun _ _ h => h)
  have hlen : ∀ s : ByteArray, s.size = (bytesOf s).length := fun s => (bytesOf_length s).symm
  have hle1 : path.size ≤ z1.length := by
    have := congrArg List.length ht1
    simp [bytesOf_length] at this; omega
  have hle2 : raw.size ≤ z2.length := by
    have := congrArg List.length ht2
    simp [bytesOf_length] at this; omega
  have hs1 := F1.size
  have hlt1 := ha1.lt
  have hw1 := ha1.lt
  have hw2 := ha2.lt
  have hs13 := F13.size
  have hs4 := F4.size
  have hs2 := F2.size
  have hs3 := F3.size
  have q1 : bytesOf path = bytesOf path := rfl
  have h4' := (h4.re (X' := fun k => k = w4.heap.size) (fun k hk => .inr (by omega))).calm (below_alloc (Below.refl w4.heap.size w4) (.cells #[.slice (some ⟨w1.heap.size, 0, none⟩) path.size z1.length, .slice (some ⟨w2.heap.size, 0, none⟩) raw.size z2.length, .slice none 0 0, .map (some w.heap.size), .map (some w3.heap.size)] 131))
  have hq1 := ((F2.trans F3 (fun _ _ h => h)).trans F45 (fun _ _ h => h)).heap h1 (fun h => h)
  refine ⟨w3.heap.size, w4.heap.size, w.heap.size, w3.heap.size, rfl, ⟨w1.heap.size, w2.heap.size, z1, z2, ?_, (ha1.fr F3 (fun h => h)).fr F45 (fun h => h), by rw [bytesOf_length]; exact hle1, by rw [bytesOf_length]; exact ht1, hc1, ha2.fr F45 (fun h => h), by rw [bytesOf_length]; exact hle2, by rw [bytesOf_length]; exact ht2, hc2, by omega, by omega, by omega, by have := lt_of h1; omega, by omega, hq1⟩, h4', hs13, F15.below (Nat.le_refl _) (fun _ _ h => h.elim)⟩
  rw [bytesOf_length, bytesOf_length]
  exact heap_new _ _
set_option maxHeartbeats 1000000 in
set_option maxRecDepth 100000 in
theorem newH_call {B m clock : Nat} {X : Nat → Prop} {rs : List MR} (path : ByteArray) (w : World) (H : HMr B X m rs clock w) (hx : ∀ r ∈ rs, r.xs.length ≤ 1000000) (hp : path.size ≤ 140737488355328) :
    Calls Tryz.prog 45 #[.string path, .string ⟨#[]⟩, .map (some m)] w fun e w' =>
      ∃ C eb qm mh, e = .returned (.tuple #[.pointer (some ⟨eb, 0, none⟩), .nilIface]) ∧ EncK C eb qm mh (bytesOf path) (bytesOf path) w' ∧ HMq C (fun k => k = eb) mh rs.length (lk (rs.map MR.hd)) w' ∧ w.heap.size ≤ C ∧ Below w.heap.size w w' := by
  go_enter Tryz.func45, Tryz.ntmps45
  go_wp2_with fail
  refine (newRawH_call path path w H hx hp hp).mono ?_
  rintro e w1 ⟨C, eb, qm, mh, rfl, h⟩
  go_wp2
  go_ret2
  exact ⟨C, eb, qm, mh, rfl, h⟩
end HH
end Go.Proofs.YtclmjmfcggkpaaaGreatDoor
