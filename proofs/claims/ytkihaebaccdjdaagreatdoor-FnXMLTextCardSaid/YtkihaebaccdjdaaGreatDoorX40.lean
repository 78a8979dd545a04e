import Derived.Test.YtkihaebaccdjdaaGreatDoorX32
import Derived.Test.YtkihaebaccdjdaaGreatDoorX14
import Derived.Test.YtkihaebaccdjdaaGreatDoorX38
import Derived.Test.YtkihaebaccdjdaaGreatDoorX39
set_option linter.unusedVariables false
set_option linter.unusedSimpArgs false
namespace Go.Proofs.YtkihaebaccdjdaaGreatDoor
open Go.RowKit Go.Proofs.YtkihaebaccdjdaaGreatDoorW.PrintWords Go.Proofs.YtkihaebaccdjdaaGreatDoorW.PrintLast Go.Proofs.YtkihaebaccdjdaaGreatDoorW.PrintMore
open PX
namespace H
/-! ### What spec.cut, reader.reference and reader.data read of XML (plain) -/
theorem cut_at {s : ByteArray} {c : Int} {a b : List Int} (h : bytesOf s = a ++ c :: b) (hc : c ∉ a) (hs : s.size ≤ 2147483647) :
 ∀ (n j k : Nat), n = a.length - j → j ≤ a.length → n + 1 ≤ k → spec_cut.l0 k s c (s.size : Int) (j : Int) = some (s.extract 0 a.length, s.extract (a.length + 1) s.size, true) := by
 have hlen : a.length + 1 ≤ s.size := by rw [← bytesOf_length, h]; simp
 intro n
 induction n with
 | zero =>
   intro j k hn hj hk
   obtain rfl : j = a.length := by omega
   obtain ⟨k, rfl⟩ : ∃ q, k = q + 1 := ⟨k - 1, by omega⟩
   have hb : bt s (a.length : Int) = c := by
    have := bt_getD s a.length (by omega)
    rw [this, h]
    simp [List.getD_eq_getElem?_getD]
   have e : wrap64 ((a.length : Int) + 1) = ((a.length + 1 : Nat) : Int) := by unfold wrap64; omega
   rw [spec_cut.l0, if_pos (by omega), if_pos (by omega), if_pos (by omega), if_pos hb, if_pos (by omega), e, if_pos (by omega), if_pos (by omega)]
   simp only [Int.toNat_natCast]
 | succ n ih =>
   intro j k hn hj hk
   obtain ⟨k, rfl⟩ : ∃ q, k = q + 1 := ⟨k - 1, by omega⟩
   have hb : ¬ bt s (j : Int) = c := by
    have := bt_getD s j (by omega)
    rw [this, h, List.getD_eq_getElem?_getD, List.getElem?_append_left (by omega), List.getElem?_eq_getElem (by omega)]
    intro e
    exact hc (by rw [← e]; exact List.getElem_mem _)
   have e : wrap64 ((j : Int) + 1) = ((j + 1 : Nat) : Int) := by unfold wrap64; omega
   rw [spec_cut.l0, if_pos (by omega), if_pos (by omega), if_pos (by omega), if_neg hb, e]
   exact ih (j + 1) k (by omega) (by omega) (by omega)
theorem cut_f {s : ByteArray} {c : Int} {a b : List Int} (h : bytesOf s = a ++ c :: b) (hc : c ∉ a) (hs : s.size ≤ 2147483647) (k : Nat) (hk : a.length + 1 ≤ k) :
 spec_cut.f k s c = some (s.extract 0 a.length, s.extract (a.length + 1) s.size, true) ∧ bytesOf (s.extract 0 a.length) = a ∧ bytesOf (s.extract (a.length + 1) s.size) = b := by
 refine ⟨cut_at h hc hs a.length 0 k (by omega) (by omega) hk, ?_, ?_⟩
 ·rw [bytes_ext, h]; simp
 ·rw [bytes_tail, h, show a.length + 1 = (a ++ [c]).length from by simp, show a ++ c :: b = (a ++ [c]) ++ b from by simp, List.drop_left]
theorem num_step {t s : ByteArray} {f : Bool} {x base d : Int} {i : Nat} (k : Nat) (hi : i < t.size) (ht : t.size ≤ 100) (hd : spec_digit.f k (bt t (i : Int)) = some (d, true)) (h0 : 0 ≤ d) (hb : d < base) (hb2 : base ≤ 16) (hx0 : 0 ≤ x) (hx1 : x ≤ 1114111) :
 spec_reader_reference.l0 (k + 1) t x base (t.size : Int) (i : Int) s f = spec_reader_reference.l0 k t (x * base + d) base (t.size : Int) ((i + 1 : Nat) : Int) s f := by
 have e1 : wrap32 d = d := by unfold wrap32; omega
 have hm0 : 0 ≤ x * base := Int.mul_nonneg hx0 (by omega)
 have hm1 : x * base ≤ 1114111 * 16 := Int.mul_le_mul hx1 hb2 (by omega) (by omega)
 have e2 : wrap32 (x * base) = x * base := by unfold wrap32; omega
 have e3 : wrap32 (x * base + d) = x * base + d := by unfold wrap32; omega
 have e4 : wrap64 ((i : Int) + 1) = ((i + 1 : Nat) : Int) := by unfold wrap64; omega
 rw [spec_reader_reference.l0, if_pos (by omega), if_pos (by omega), if_pos (by omega), hd]
 simp only [Option.bind_some, if_true]
 rw [e1, if_neg (by omega), if_neg (by omega), e2, e3, e4]
theorem num_end {t s : ByteArray} {f : Bool} {x base : Int} (k : Nat) (ht : t.size ≠ 0) (hx : okR x) (hc : charB x = true) :
 ∃ r, spec_reader_reference.l0 (k + 1) t x base (t.size : Int) (t.size : Int) s f = some (r, s, f) ∧ bytesOf r = utf8E x := by
 obtain ⟨r, hr, hb⟩ := utf8_f x hx
 refine ⟨r, ?_, hb⟩
 have hne : ¬ t.toList = ([] : List UInt8) := fun e => by
  have : t.data.toList.length = 0 := by rw [show t.data.toList = t.toList from by simp [ByteArray.toList_eq]]; simp [e]
  rw [data_length] at this; exact ht this
 rw [spec_reader_reference.l0, if_neg (by omega), if_neg hne, charB_f, hc]
 simp only [Option.bind_some, if_true]
 rw [if_neg (by have := hx.2.1; omega), hr]
 rfl
theorem lit_ne {s t : ByteArray} (h : bytesOf s ≠ bytesOf t) (l : List UInt8) (ht : t.toList = l) : ¬ s.toList = l := fun e => h ((toList_eq_iff s t).1 (e.trans ht.symm))
theorem l_lt : (⟨#[108, 116]⟩ : ByteArray).toList = [108, 116] := by simp [ByteArray.toList_eq]
theorem l_gt : (⟨#[103, 116]⟩ : ByteArray).toList = [103, 116] := by simp [ByteArray.toList_eq]
theorem l_amp : (⟨#[97, 109, 112]⟩ : ByteArray).toList = [97, 109, 112] := by simp [ByteArray.toList_eq]
theorem l_quot : (⟨#[113, 117, 111, 116]⟩ : ByteArray).toList = [113, 117, 111, 116] := by simp [ByteArray.toList_eq]
theorem l_apos : (⟨#[97, 112, 111, 115]⟩ : ByteArray).toList = [97, 112, 111, 115] := by simp [ByteArray.toList_eq]
theorem ref_f {x : Int} {nm : List Int} (hn : xname x = some nm) {s : ByteArray} {l : List Int} (h : bytesOf s = nm ++ 59 :: l) (hs : s.size ≤ 2147483647) (k : Nat) :
 ∃ r s', spec_reader_reference.f (k + 20) s false = some (r, s', false) ∧ bytesOf r = utf8E x ∧ bytesOf s' = l := by
 rcases xname_cases hn with h1 | h1 | h1 | h1 | h1 | h1 | h1 | h1 | h1 | h1
 ·obtain ⟨rfl, rfl⟩ := h1
  obtain ⟨hc, hb1, hb2⟩ := cut_f h (by decide) hs (k + 20) (by simp)
  generalize s.extract 0 _ = n at hc hb1
  generalize s.extract _ s.size = s' at hc hb2
  unfold spec_reader_reference.f
  rw [hc]
  simp only [Option.bind_some, if_true]
  rw [if_neg (lit_ne (t := ⟨#[108, 116]⟩) (by rw [hb1]; decide) _ l_lt)]
  rw [if_neg (lit_ne (t := ⟨#[103, 116]⟩) (by rw [hb1]; decide) _ l_gt)]
  rw [if_neg (lit_ne (t := ⟨#[97, 109, 112]⟩) (by rw [hb1]; decide) _ l_amp)]
  rw [if_neg (lit_ne (t := ⟨#[113, 117, 111, 116]⟩) (by rw [hb1]; decide) _ l_quot)]
  rw [if_neg (lit_ne (t := ⟨#[97, 112, 111, 115]⟩) (by rw [hb1]; decide) _ l_apos)]
  have hsz : n.size = 3 := by rw [← bytesOf_length, hb1]; rfl
  obtain ⟨hb3, hz3⟩ : bytesOf (n.extract 1 n.size) = [51, 52] ∧ (n.extract 1 n.size).size = 2 := ⟨by rw [bytes_tail, hb1]; rfl, by rw [← bytesOf_length, bytes_tail, hb1]; rfl⟩
  have hb0 : bt n 0 = 35 := (hd_of hb1).bt
  have hb4 := (hd_of hb3).bt
  rw [if_neg (by omega), if_pos (by omega), hb0, show ((35 : Int) != 35) = false from rfl]
  simp only [spec_reader_reference.j0, Bool.false_eq_true, if_false]
  rw [if_pos (by omega), if_pos (by omega), hb4]
  rw [if_neg (by decide)]
  simp only [spec_reader_reference.j1]
  generalize n.extract 1 n.size = d at *
  have hb5 := hb3; have hz5 := hz3
  have hg0 : bt d ((0 : Nat) : Int) = 51 := by rw [bt_getD d 0 (by omega), hb5]; rfl
  have hs0 := num_step (t := d) (s := s') (f := false) (x := 0) (base := 10) (d := 3) (i := 0) (k + 17) (by omega) (by omega) (by rw [hg0]; rfl) (by decide) (by decide) (by decide) (by decide) (by decide)
  have hg1 : bt d ((1 : Nat) : Int) = 52 := by rw [bt_getD d 1 (by omega), hb5]; rfl
  have hs1 := num_step (t := d) (s := s') (f := false) (x := (0 * 10 + 3)) (base := 10) (d := 4) (i := 1) (k + 16) (by omega) (by omega) (by rw [hg1]; rfl) (by decide) (by decide) (by decide) (by decide) (by decide)
  obtain ⟨r, hr, hu⟩ := num_end (t := d) (s := s') (f := false) (x := ((0 * 10 + 3) * 10 + 4)) (base := 10) (k + 15) (by omega) (by unfold okR; decide) (by decide)
  refine ⟨r, s', ?_, hu, hb2⟩
  rw [show ((d.size : Nat) : Int) = ((2 : Nat) : Int) from by rw [hz5]] at *
  exact hs0.trans ( hs1.trans ( hr))
 ·obtain ⟨rfl, rfl⟩ := h1
  obtain ⟨hc, hb1, hb2⟩ := cut_f h (by decide) hs (k + 20) (by simp)
  generalize s.extract 0 _ = n at hc hb1
  generalize s.extract _ s.size = s' at hc hb2
  unfold spec_reader_reference.f
  rw [hc]
  simp only [Option.bind_some, if_true]
  rw [if_neg (lit_ne (t := ⟨#[108, 116]⟩) (by rw [hb1]; decide) _ l_lt)]
  rw [if_neg (lit_ne (t := ⟨#[103, 116]⟩) (by rw [hb1]; decide) _ l_gt)]
  rw [if_neg (lit_ne (t := ⟨#[97, 109, 112]⟩) (by rw [hb1]; decide) _ l_amp)]
  rw [if_neg (lit_ne (t := ⟨#[113, 117, 111, 116]⟩) (by rw [hb1]; decide) _ l_quot)]
  rw [if_neg (lit_ne (t := ⟨#[97, 112, 111, 115]⟩) (by rw [hb1]; decide) _ l_apos)]
  have hsz : n.size = 3 := by rw [← bytesOf_length, hb1]; rfl
  obtain ⟨hb3, hz3⟩ : bytesOf (n.extract 1 n.size) = [51, 57] ∧ (n.extract 1 n.size).size = 2 := ⟨by rw [bytes_tail, hb1]; rfl, by rw [← bytesOf_length, bytes_tail, hb1]; rfl⟩
  have hb0 : bt n 0 = 35 := (hd_of hb1).bt
  have hb4 := (hd_of hb3).bt
  rw [if_neg (by omega), if_pos (by omega), hb0, show ((35 : Int) != 35) = false from rfl]
  simp only [spec_reader_reference.j0, Bool.false_eq_true, if_false]
  rw [if_pos (by omega), if_pos (by omega), hb4]
  rw [if_neg (by decide)]
  simp only [spec_reader_reference.j1]
  generalize n.extract 1 n.size = d at *
  have hb5 := hb3; have hz5 := hz3
  have hg0 : bt d ((0 : Nat) : Int) = 51 := by rw [bt_getD d 0 (by omega), hb5]; rfl
  have hs0 := num_step (t := d) (s := s') (f := false) (x := 0) (base := 10) (d := 3) (i := 0) (k + 17) (by omega) (by omega) (by rw [hg0]; rfl) (by decide) (by decide) (by decide) (by decide) (by decide)
  have hg1 : bt d ((1 : Nat) : Int) = 57 := by rw [bt_getD d 1 (by omega), hb5]; rfl
  have hs1 := num_step (t := d) (s := s') (f := false) (x := (0 * 10 + 3)) (base := 10) (d := 9) (i := 1) (k + 16) (by omega) (by omega) (by rw [hg1]; rfl) (by decide) (by decide) (by decide) (by decide) (by decide)
  obtain ⟨r, hr, hu⟩ := num_end (t := d) (s := s') (f := false) (x := ((0 * 10 + 3) * 10 + 9)) (base := 10) (k + 15) (by omega) (by unfold okR; decide) (by decide)
  refine ⟨r, s', ?_, hu, hb2⟩
  rw [show ((d.size : Nat) : Int) = ((2 : Nat) : Int) from by rw [hz5]] at *
  exact hs0.trans ( hs1.trans ( hr))
 ·obtain ⟨rfl, rfl⟩ := h1
  obtain ⟨hc, hb1, hb2⟩ := cut_f h (by decide) hs (k + 20) (by simp)
  generalize s.extract 0 _ = n at hc hb1
  generalize s.extract _ s.size = s' at hc hb2
  unfold spec_reader_reference.f
  rw [hc]
  simp only [Option.bind_some, if_true]
  rw [if_neg (lit_ne (t := ⟨#[108, 116]⟩) (by rw [hb1]; decide) _ l_lt)]
  rw [if_neg (lit_ne (t := ⟨#[103, 116]⟩) (by rw [hb1]; decide) _ l_gt)]
  rw [if_pos ((toList_eq_iff n ⟨#[97, 109, 112]⟩).2 (by rw [hb1]; decide) |>.trans l_amp)]
  exact ⟨_, s', rfl, by decide, hb2⟩
 ·obtain ⟨rfl, rfl⟩ := h1
  obtain ⟨hc, hb1, hb2⟩ := cut_f h (by decide) hs (k + 20) (by simp)
  generalize s.extract 0 _ = n at hc hb1
  generalize s.extract _ s.size = s' at hc hb2
  unfold spec_reader_reference.f
  rw [hc]
  simp only [Option.bind_some, if_true]
  rw [if_pos ((toList_eq_iff n ⟨#[108, 116]⟩).2 (by rw [hb1]; decide) |>.trans l_lt)]
  exact ⟨_, s', rfl, by decide, hb2⟩
 ·obtain ⟨rfl, rfl⟩ := h1
  obtain ⟨hc, hb1, hb2⟩ := cut_f h (by decide) hs (k + 20) (by simp)
  generalize s.extract 0 _ = n at hc hb1
  generalize s.extract _ s.size = s' at hc hb2
  unfold spec_reader_reference.f
  rw [hc]
  simp only [Option.bind_some, if_true]
  rw [if_neg (lit_ne (t := ⟨#[108, 116]⟩) (by rw [hb1]; decide) _ l_lt)]
  rw [if_pos ((toList_eq_iff n ⟨#[103, 116]⟩).2 (by rw [hb1]; decide) |>.trans l_gt)]
  exact ⟨_, s', rfl, by decide, hb2⟩
 ·obtain ⟨rfl, rfl⟩ := h1
  obtain ⟨hc, hb1, hb2⟩ := cut_f h (by decide) hs (k + 20) (by simp)
  generalize s.extract 0 _ = n at hc hb1
  generalize s.extract _ s.size = s' at hc hb2
  unfold spec_reader_reference.f
  rw [hc]
  simp only [Option.bind_some, if_true]
  rw [if_neg (lit_ne (t := ⟨#[108, 116]⟩) (by rw [hb1]; decide) _ l_lt)]
  rw [if_neg (lit_ne (t := ⟨#[103, 116]⟩) (by rw [hb1]; decide) _ l_gt)]
  rw [if_neg (lit_ne (t := ⟨#[97, 109, 112]⟩) (by rw [hb1]; decide) _ l_amp)]
  rw [if_neg (lit_ne (t := ⟨#[113, 117, 111, 116]⟩) (by rw [hb1]; decide) _ l_quot)]
  rw [if_neg (lit_ne (t := ⟨#[97, 112, 111, 115]⟩) (by rw [hb1]; decide) _ l_apos)]
  have hsz : n.size = 3 := by rw [← bytesOf_length, hb1]; rfl
  obtain ⟨hb3, hz3⟩ : bytesOf (n.extract 1 n.size) = [120, 57] ∧ (n.extract 1 n.size).size = 2 := ⟨by rw [bytes_tail, hb1]; rfl, by rw [← bytesOf_length, bytes_tail, hb1]; rfl⟩
  have hb0 : bt n 0 = 35 := (hd_of hb1).bt
  have hb4 := (hd_of hb3).bt
  rw [if_neg (by omega), if_pos (by omega), hb0, show ((35 : Int) != 35) = false from rfl]
  simp only [spec_reader_reference.j0, Bool.false_eq_true, if_false]
  rw [if_pos (by omega), if_pos (by omega), hb4]
  generalize n.extract 1 n.size = m at *
  obtain ⟨hb5, hz5⟩ : bytesOf (m.extract 1 m.size) = [57] ∧ (m.extract 1 m.size).size = 1 := ⟨by rw [bytes_tail, hb3]; rfl, by rw [← bytesOf_length, bytes_tail, hb3]; rfl⟩
  rw [if_pos rfl, if_pos (by omega)]
  simp only [spec_reader_reference.j1]
  generalize m.extract 1 m.size = d at *
  have hg0 : bt d ((0 : Nat) : Int) = 57 := by rw [bt_getD d 0 (by omega), hb5]; rfl
  have hs0 := num_step (t := d) (s := s') (f := false) (x := 0) (base := 16) (d := 9) (i := 0) (k + 17) (by omega) (by omega) (by rw [hg0]; rfl) (by decide) (by decide) (by decide) (by decide) (by decide)
  obtain ⟨r, hr, hu⟩ := num_end (t := d) (s := s') (f := false) (x := (0 * 16 + 9)) (base := 16) (k + 16) (by omega) (by unfold okR; decide) (by decide)
  refine ⟨r, s', ?_, hu, hb2⟩
  rw [show ((d.size : Nat) : Int) = ((1 : Nat) : Int) from by rw [hz5]] at *
  exact hs0.trans ( hr)
 ·obtain ⟨rfl, rfl⟩ := h1
  obtain ⟨hc, hb1, hb2⟩ := cut_f h (by decide) hs (k + 20) (by simp)
  generalize s.extract 0 _ = n at hc hb1
  generalize s.extract _ s.size = s' at hc hb2
  unfold spec_reader_reference.f
  rw [hc]
  simp only [Option.bind_some, if_true]
  rw [if_neg (lit_ne (t := ⟨#[108, 116]⟩) (by rw [hb1]; decide) _ l_lt)]
  rw [if_neg (lit_ne (t := ⟨#[103, 116]⟩) (by rw [hb1]; decide) _ l_gt)]
  rw [if_neg (lit_ne (t := ⟨#[97, 109, 112]⟩) (by rw [hb1]; decide) _ l_amp)]
  rw [if_neg (lit_ne (t := ⟨#[113, 117, 111, 116]⟩) (by rw [hb1]; decide) _ l_quot)]
  rw [if_neg (lit_ne (t := ⟨#[97, 112, 111, 115]⟩) (by rw [hb1]; decide) _ l_apos)]
  have hsz : n.size = 3 := by rw [← bytesOf_length, hb1]; rfl
  obtain ⟨hb3, hz3⟩ : bytesOf (n.extract 1 n.size) = [120, 65] ∧ (n.extract 1 n.size).size = 2 := ⟨by rw [bytes_tail, hb1]; rfl, by rw [← bytesOf_length, bytes_tail, hb1]; rfl⟩
  have hb0 : bt n 0 = 35 := (hd_of hb1).bt
  have hb4 := (hd_of hb3).bt
  rw [if_neg (by omega), if_pos (by omega), hb0, show ((35 : Int) != 35) = false from rfl]
  simp only [spec_reader_reference.j0, Bool.false_eq_true, if_false]
  rw [if_pos (by omega), if_pos (by omega), hb4]
  generalize n.extract 1 n.size = m at *
  obtain ⟨hb5, hz5⟩ : bytesOf (m.extract 1 m.size) = [65] ∧ (m.extract 1 m.size).size = 1 := ⟨by rw [bytes_tail, hb3]; rfl, by rw [← bytesOf_length, bytes_tail, hb3]; rfl⟩
  rw [if_pos rfl, if_pos (by omega)]
  simp only [spec_reader_reference.j1]
  generalize m.extract 1 m.size = d at *
  have hg0 : bt d ((0 : Nat) : Int) = 65 := by rw [bt_getD d 0 (by omega), hb5]; rfl
  have hs0 := num_step (t := d) (s := s') (f := false) (x := 0) (base := 16) (d := 10) (i := 0) (k + 17) (by omega) (by omega) (by rw [hg0]; rfl) (by decide) (by decide) (by decide) (by decide) (by decide)
  obtain ⟨r, hr, hu⟩ := num_end (t := d) (s := s') (f := false) (x := (0 * 16 + 10)) (base := 16) (k + 16) (by omega) (by unfold okR; decide) (by decide)
  refine ⟨r, s', ?_, hu, hb2⟩
  rw [show ((d.size : Nat) : Int) = ((1 : Nat) : Int) from by rw [hz5]] at *
  exact hs0.trans ( hr)
 ·obtain ⟨rfl, rfl⟩ := h1
  obtain ⟨hc, hb1, hb2⟩ := cut_f h (by decide) hs (k + 20) (by simp)
  generalize s.extract 0 _ = n at hc hb1
  generalize s.extract _ s.size = s' at hc hb2
  unfold spec_reader_reference.f
  rw [hc]
  simp only [Option.bind_some, if_true]
  rw [if_neg (lit_ne (t := ⟨#[108, 116]⟩) (by rw [hb1]; decide) _ l_lt)]
  rw [if_neg (lit_ne (t := ⟨#[103, 116]⟩) (by rw [hb1]; decide) _ l_gt)]
  rw [if_neg (lit_ne (t := ⟨#[97, 109, 112]⟩) (by rw [hb1]; decide) _ l_amp)]
  rw [if_neg (lit_ne (t := ⟨#[113, 117, 111, 116]⟩) (by rw [hb1]; decide) _ l_quot)]
  rw [if_neg (lit_ne (t := ⟨#[97, 112, 111, 115]⟩) (by rw [hb1]; decide) _ l_apos)]
  have hsz : n.size = 3 := by rw [← bytesOf_length, hb1]; rfl
  obtain ⟨hb3, hz3⟩ : bytesOf (n.extract 1 n.size) = [120, 68] ∧ (n.extract 1 n.size).size = 2 := ⟨by rw [bytes_tail, hb1]; rfl, by rw [← bytesOf_length, bytes_tail, hb1]; rfl⟩
  have hb0 : bt n 0 = 35 := (hd_of hb1).bt
  have hb4 := (hd_of hb3).bt
  rw [if_neg (by omega), if_pos (by omega), hb0, show ((35 : Int) != 35) = false from rfl]
  simp only [spec_reader_reference.j0, Bool.false_eq_true, if_false]
  rw [if_pos (by omega), if_pos (by omega), hb4]
  generalize n.extract 1 n.size = m at *
  obtain ⟨hb5, hz5⟩ : bytesOf (m.extract 1 m.size) = [68] ∧ (m.extract 1 m.size).size = 1 := ⟨by rw [bytes_tail, hb3]; rfl, by rw [← bytesOf_length, bytes_tail, hb3]; rfl⟩
  rw [if_pos rfl, if_pos (by omega)]
  simp only [spec_reader_reference.j1]
  generalize m.extract 1 m.size = d at *
  have hg0 : bt d ((0 : Nat) : Int) = 68 := by rw [bt_getD d 0 (by omega), hb5]; rfl
  have hs0 := num_step (t := d) (s := s') (f := false) (x := 0) (base := 16) (d := 13) (i := 0) (k + 17) (by omega) (by omega) (by rw [hg0]; rfl) (by decide) (by decide) (by decide) (by decide) (by decide)
  obtain ⟨r, hr, hu⟩ := num_end (t := d) (s := s') (f := false) (x := (0 * 16 + 13)) (base := 16) (k + 16) (by omega) (by unfold okR; decide) (by decide)
  refine ⟨r, s', ?_, hu, hb2⟩
  rw [show ((d.size : Nat) : Int) = ((1 : Nat) : Int) from by rw [hz5]] at *
  exact hs0.trans ( hr)
 ·obtain ⟨rfl, rfl⟩ := h1
  obtain ⟨hc, hb1, hb2⟩ := cut_f h (by decide) hs (k + 20) (by simp)
  generalize s.extract 0 _ = n at hc hb1
  generalize s.extract _ s.size = s' at hc hb2
  unfold spec_reader_reference.f
  rw [hc]
  simp only [Option.bind_some, if_true]
  rw [if_neg (lit_ne (t := ⟨#[108, 116]⟩) (by rw [hb1]; decide) _ l_lt)]
  rw [if_neg (lit_ne (t := ⟨#[103, 116]⟩) (by rw [hb1]; decide) _ l_gt)]
  rw [if_neg (lit_ne (t := ⟨#[97, 109, 112]⟩) (by rw [hb1]; decide) _ l_amp)]
  rw [if_neg (lit_ne (t := ⟨#[113, 117, 111, 116]⟩) (by rw [hb1]; decide) _ l_quot)]
  rw [if_neg (lit_ne (t := ⟨#[97, 112, 111, 115]⟩) (by rw [hb1]; decide) _ l_apos)]
  have hsz : n.size = 4 := by rw [← bytesOf_length, hb1]; rfl
  obtain ⟨hb3, hz3⟩ : bytesOf (n.extract 1 n.size) = [120, 56, 53] ∧ (n.extract 1 n.size).size = 3 := ⟨by rw [bytes_tail, hb1]; rfl, by rw [← bytesOf_length, bytes_tail, hb1]; rfl⟩
  have hb0 : bt n 0 = 35 := (hd_of hb1).bt
  have hb4 := (hd_of hb3).bt
  rw [if_neg (by omega), if_pos (by omega), hb0, show ((35 : Int) != 35) = false from rfl]
  simp only [spec_reader_reference.j0, Bool.false_eq_true, if_false]
  rw [if_pos (by omega), if_pos (by omega), hb4]
  generalize n.extract 1 n.size = m at *
  obtain ⟨hb5, hz5⟩ : bytesOf (m.extract 1 m.size) = [56, 53] ∧ (m.extract 1 m.size).size = 2 := ⟨by rw [bytes_tail, hb3]; rfl, by rw [← bytesOf_length, bytes_tail, hb3]; rfl⟩
  rw [if_pos rfl, if_pos (by omega)]
  simp only [spec_reader_reference.j1]
  generalize m.extract 1 m.size = d at *
  have hg0 : bt d ((0 : Nat) : Int) = 56 := by rw [bt_getD d 0 (by omega), hb5]; rfl
  have hs0 := num_step (t := d) (s := s') (f := false) (x := 0) (base := 16) (d := 8) (i := 0) (k + 17) (by omega) (by omega) (by rw [hg0]; rfl) (by decide) (by decide) (by decide) (by decide) (by decide)
  have hg1 : bt d ((1 : Nat) : Int) = 53 := by rw [bt_getD d 1 (by omega), hb5]; rfl
  have hs1 := num_step (t := d) (s := s') (f := false) (x := (0 * 16 + 8)) (base := 16) (d := 5) (i := 1) (k + 16) (by omega) (by omega) (by rw [hg1]; rfl) (by decide) (by decide) (by decide) (by decide) (by decide)
  obtain ⟨r, hr, hu⟩ := num_end (t := d) (s := s') (f := false) (x := ((0 * 16 + 8) * 16 + 5)) (base := 16) (k + 15) (by omega) (by unfold okR; decide) (by decide)
  refine ⟨r, s', ?_, hu, hb2⟩
  rw [show ((d.size : Nat) : Int) = ((2 : Nat) : Int) from by rw [hz5]] at *
  exact hs0.trans ( hs1.trans ( hr))
 ·obtain ⟨rfl, rfl⟩ := h1
  obtain ⟨hc, hb1, hb2⟩ := cut_f h (by decide) hs (k + 20) (by simp)
  generalize s.extract 0 _ = n at hc hb1
  generalize s.extract _ s.size = s' at hc hb2
  unfold spec_reader_reference.f
  rw [hc]
  simp only [Option.bind_some, if_true]
  rw [if_neg (lit_ne (t := ⟨#[108, 116]⟩) (by rw [hb1]; decide) _ l_lt)]
  rw [if_neg (lit_ne (t := ⟨#[103, 116]⟩) (by rw [hb1]; decide) _ l_gt)]
  rw [if_neg (lit_ne (t := ⟨#[97, 109, 112]⟩) (by rw [hb1]; decide) _ l_amp)]
  rw [if_neg (lit_ne (t := ⟨#[113, 117, 111, 116]⟩) (by rw [hb1]; decide) _ l_quot)]
  rw [if_neg (lit_ne (t := ⟨#[97, 112, 111, 115]⟩) (by rw [hb1]; decide) _ l_apos)]
  have hsz : n.size = 6 := by rw [← bytesOf_length, hb1]; rfl
  obtain ⟨hb3, hz3⟩ : bytesOf (n.extract 1 n.size) = [120, 50, 48, 50, 56] ∧ (n.extract 1 n.size).size = 5 := ⟨by rw [bytes_tail, hb1]; rfl, by rw [← bytesOf_length, bytes_tail, hb1]; rfl⟩
  have hb0 : bt n 0 = 35 := (hd_of hb1).bt
  have hb4 := (hd_of hb3).bt
  rw [if_neg (by omega), if_pos (by omega), hb0, show ((35 : Int) != 35) = false from rfl]
  simp only [spec_reader_reference.j0, Bool.false_eq_true, if_false]
  rw [if_pos (by omega), if_pos (by omega), hb4]
  generalize n.extract 1 n.size = m at *
  obtain ⟨hb5, hz5⟩ : bytesOf (m.extract 1 m.size) = [50, 48, 50, 56] ∧ (m.extract 1 m.size).size = 4 := ⟨by rw [bytes_tail, hb3]; rfl, by rw [← bytesOf_length, bytes_tail, hb3]; rfl⟩
  rw [if_pos rfl, if_pos (by omega)]
  simp only [spec_reader_reference.j1]
  generalize m.extract 1 m.size = d at *
  have hg0 : bt d ((0 : Nat) : Int) = 50 := by rw [bt_getD d 0 (by omega), hb5]; rfl
  have hs0 := num_step (t := d) (s := s') (f := false) (x := 0) (base := 16) (d := 2) (i := 0) (k + 17) (by omega) (by omega) (by rw [hg0]; rfl) (by decide) (by decide) (by decide) (by decide) (by decide)
  have hg1 : bt d ((1 : Nat) : Int) = 48 := by rw [bt_getD d 1 (by omega), hb5]; rfl
  have hs1 := num_step (t := d) (s := s') (f := false) (x := (0 * 16 + 2)) (base := 16) (d := 0) (i := 1) (k + 16) (by omega) (by omega) (by rw [hg1]; rfl) (by decide) (by decide) (by decide) (by decide) (by decide)
  have hg2 : bt d ((2 : Nat) : Int) = 50 := by rw [bt_getD d 2 (by omega), hb5]; rfl
  have hs2 := num_step (t := d) (s := s') (f := false) (x := ((0 * 16 + 2) * 16 + 0)) (base := 16) (d := 2) (i := 2) (k + 15) (by omega) (by omega) (by rw [hg2]; rfl) (by decide) (by decide) (by decide) (by decide) (by decide)
  have hg3 : bt d ((3 : Nat) : Int) = 56 := by rw [bt_getD d 3 (by omega), hb5]; rfl
  have hs3 := num_step (t := d) (s := s') (f := false) (x := (((0 * 16 + 2) * 16 + 0) * 16 + 2)) (base := 16) (d := 8) (i := 3) (k + 14) (by omega) (by omega) (by rw [hg3]; rfl) (by decide) (by decide) (by decide) (by decide) (by decide)
  obtain ⟨r, hr, hu⟩ := num_end (t := d) (s := s') (f := false) (x := ((((0 * 16 + 2) * 16 + 0) * 16 + 2) * 16 + 8)) (base := 16) (k + 13) (by omega) (by unfold okR; decide) (by decide)
  refine ⟨r, s', ?_, hu, hb2⟩
  rw [show ((d.size : Nat) : Int) = ((4 : Nat) : Int) from by rw [hz5]] at *
  exact hs0.trans ( hs1.trans ( hs2.trans ( hs3.trans ( hr))))
theorem xname_62 {x : Int} {nm : List Int} (h : xname x = some nm) : (62 : Int) ∉ nm := by
 rcases xname_cases h with h1 | h1 | h1 | h1 | h1 | h1 | h1 | h1 | h1 | h1
 all_goals
  obtain ⟨_, rfl⟩ := h1
  decide
theorem xread_62 {a b : List Int} (h : XRead a b) : (62 : Int) ∉ a := by
 induction h with
 | nil => simp
 | plain c hc _ ih => simp only [List.mem_cons, not_or]; exact ⟨by omega, ih⟩
 | ref x nm hn _ ih => simp only [List.mem_cons, List.mem_append, not_or]; exact ⟨by omega, xname_62 hn, by omega, ih⟩
theorem begins_f (s t : ByteArray) (h : ¬ (t.size ≤ s.size ∧ (s.extract 0 t.size).toList = t.toList)) : spec_Begins.f s t = some false := by
 unfold spec_Begins.f
 by_cases hle : t.size ≤ s.size
 ·have hne : ((s.extract 0 t.size).toList == t.toList) = false := beq_eq_false_iff_ne.2 (fun e => h ⟨hle, e⟩)
  rw [if_pos (by omega), if_pos (by omega), if_pos (by omega), Int.toNat_natCast, hne]
 ·rw [if_neg (by omega)]
theorem take_no {s : ByteArray} {c : Int} {l : List Int} (h : bytesOf s = c :: l) (f : Bool) (t : ByteArray) (b : Int) (tl : List Int) (hb : bytesOf t = b :: tl) (hc : c ≠ b) : spec_reader_take.f s f t = some (false, s, f) := by
 unfold spec_reader_take.f
 rw [if_neg]
 rintro ⟨hle, e⟩
 have e2 := (toList_eq_iff _ _).1 e
 rw [bytes_ext, h, hb, ← bytesOf_length, hb] at e2
 simp at e2
 exact hc e2.1
theorem take_yes {s t : ByteArray} {a l : List Int} (h : bytesOf s = a ++ l) (f : Bool) (ht : bytesOf t = a) : ∃ s', spec_reader_take.f s f t = some (true, s', f) ∧ bytesOf s' = l := by
 have hl : t.size = a.length := by rw [← bytesOf_length, ht]
 have hs : s.size = a.length + l.length := by rw [← bytesOf_length, h, List.length_append]
 refine ⟨s.extract t.size s.size, ?_, ?_⟩
 ·unfold spec_reader_take.f
  rw [if_pos ⟨by omega, (toList_eq_iff _ _).2 (by rw [bytes_ext, h, ht, hl]; simp)⟩]
 ·rw [bytes_tail, h, hl, List.drop_left]
theorem rd_last (l : List Int) (c : Int) : rd (l ++ [c]) (((l ++ [c]).length : Int) - 1) = c := by
 have e : (((l ++ [c]).length : Int) - 1).toNat = l.length := by simp
 simp only [rd, e]
 simp [List.getD_eq_getElem?_getD]
theorem data_l0 {a b : List Int} (h : XRead a b) (inV : Bool) (e : Int) (he : e = 34 ∨ e = 60) : ∀ (s : ByteArray) (l out : List Int) (k : Nat), bytesOf s = a ++ e :: l → s.size ≤ 2147483647 → out.length + b.length < 140737488355328 → 3 * a.length + 30 ≤ k →
 ∃ s', spec_reader_data.l0 k e inV out s false = some (strOfNums (out ++ b), s', false) ∧ bytesOf s' = e :: l := by
 have q38 : bytesOf ⟨#[38]⟩ = [38] := by decide
 have q13 : bytesOf ⟨#[13, 10]⟩ = [13, 10] := by decide
 have q93 : bytesOf ⟨#[93, 93, 62]⟩ = [93, 93, 62] := by decide
 induction h with
 | nil =>
   intro s l out k hs _ _ hk
   obtain ⟨k, rfl⟩ : ∃ q, k = q + 2 := ⟨k - 2, by omega⟩
   have hd := hd_of hs
   refine ⟨s, ?_, hs⟩
   rw [spec_reader_data.l0, if_neg hd.ne, if_pos (by have := hd.sz; omega), if_pos hd.bt, spec_reader_data.j1, if_neg (by decide), List.append_nil]
 | plain c hc h' ih =>
   rename_i a' b'
   intro s l out k hs hz ho hk
   obtain ⟨k, rfl⟩ : ∃ q, k = q + 3 := ⟨k - 3, by simp at hk; omega⟩
   have hd := hd_of hs
   obtain ⟨s', h1, h2⟩ := ih (s.extract 1 s.size) l (out ++ [c]) k hd.tl (by simp; omega) (by simp at ho ⊢; omega) (by simp at hk; omega)
   refine ⟨s', ?_, h2⟩
   have hj2 : spec_reader_data.j2 (k + 1) e inV out c false s false = some (strOfNums (out ++ c :: b'), s', false) := by
    rw [spec_reader_data.j2, if_neg (by decide), take_no hs false ⟨#[13, 10]⟩ 13 [10] q13 (by omega)]
    simp only [Option.bind_some, Bool.false_eq_true, if_false]
    rw [if_neg (by omega), if_pos (by simp at ho; omega), if_pos (by have := hd.sz; omega)]
    have e1 : wrap64 (((out ++ [c]).length : Int) - 1) = ((out ++ [c]).length : Int) - 1 := by
     have : (out ++ [c]).length = out.length + 1 := by simp
     simp at ho
     unfold wrap64; omega
    cases inV with
    | false => simp only [Bool.false_eq_true, if_false]; rw [h1]; simp
    | true =>
      simp only [if_true]
      rw [e1, if_pos (by first | (simp; done) | (simp; omega)), if_pos (by omega), rd_last, if_neg (by omega), if_neg (by omega), h1]
      simp
   rw [spec_reader_data.l0, if_neg hd.ne, if_pos (by have := hd.sz; omega), hd.bt, if_neg (by omega), Bool.not_false, spec_reader_data.j1, if_pos rfl, if_pos (by have := hd.sz; omega),
    take_no hs false ⟨#[38]⟩ 38 [] q38 (by omega)]
   simp only [Option.bind_some, Bool.false_eq_true, if_false]
   rw [hd.bt, if_neg (by omega)]
   cases inV with
   | true => simp only [if_true]; exact hj2
   | false =>
     simp only [Bool.false_eq_true, if_false]
     rw [begins_f s ⟨#[93, 93, 62]⟩ ?_]
     ·exact hj2
     ·rintro ⟨_, e2⟩
      have e3 := (toList_eq_iff _ _).1 e2
      rw [bytes_ext, hs, q93, show (⟨#[93, 93, 62]⟩ : ByteArray).size = 3 from rfl] at e3
      have h62 := xread_62 h'
      match a', h62, e3 with
      | [], _, e3 => simp at e3; omega
      | [y], _, e3 => simp at e3; omega
      | y :: z :: r, h62, e3 => simp at e3 h62; omega
 | ref x nm hn h' ih =>
   rename_i a' b'
   intro s l out k hs hz ho hk
   obtain ⟨k, rfl⟩ : ∃ q, k = q + 20 + 2 := ⟨k - 22, by simp at hk; omega⟩
   have hd := hd_of (c := 38) (l := nm ++ 59 :: (a' ++ e :: l)) (by rw [hs]; simp)
   obtain ⟨r, s1, hr, hr1, hr2⟩ := ref_f hn hd.tl (by simp; omega) k
   have hrs : r.size = (utf8E x).length := by rw [← bytesOf_length, hr1]
   obtain ⟨s', h1, h2⟩ := ih s1 l (out ++ utf8E x) (k + 20) hr2 (by
    have h3 := congrArg List.length hr2
    have h4 := congrArg List.length hs
    rw [bytesOf_length] at h3 h4
    simp at h3 h4; omega) (by simp at ho ⊢; omega) (by simp at hk ⊢; omega)
   refine ⟨s', ?_, h2⟩
   have ht := take1 (s := s) (c := 38) (l := nm ++ 59 :: (a' ++ e :: l)) (by rw [hs]; simp) false ⟨#[38]⟩ 38 q38
   rw [if_pos rfl] at ht
   rw [spec_reader_data.l0, if_neg hd.ne, if_pos (by have := hd.sz; omega), hd.bt, if_neg (by omega), Bool.not_false, spec_reader_data.j1, if_pos rfl, if_pos (by have := hd.sz; omega), ht]
   simp only [Option.bind_some, if_true]
   rw [hr]
   simp only [Option.bind_some]
   rw [if_pos (by simp at ho; omega), hr1, h1, List.append_assoc]
end H
end Go.Proofs.YtkihaebaccdjdaaGreatDoor
