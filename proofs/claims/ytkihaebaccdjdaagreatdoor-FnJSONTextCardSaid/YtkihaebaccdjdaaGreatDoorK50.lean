import Derived.Test.YtkihaebaccdjdaaGreatDoorK37
import Derived.Test.YtkihaebaccdjdaaGreatDoorK39
import Derived.Test.YtkihaebaccdjdaaGreatDoorK49
set_option linter.unusedVariables false
set_option linter.unusedSimpArgs false
namespace Go.Proofs.YtkihaebaccdjdaaGreatDoor
open Go.RowKit Go.Proofs.YtkihaebaccdjdaaGreatDoorW.PrintWords Go.Proofs.YtkihaebaccdjdaaGreatDoorW.PrintLast Go.Proofs.YtkihaebaccdjdaaGreatDoorW.PrintMore
open PX
namespace H
/-! ### What spec.reader reads of a string of JSON (plain) -/
theorem bytes_nums (l : List Int) (h : ∀ x ∈ l, 0 ≤ x ∧ x < 256) : bytesOf (strOfNums l) = l := by
  unfold bytesOf
  rw [strOfNums_data, List.map_map]
  conv => rhs; rw [← List.map_id l]
  refine List.map_congr_left (fun x hx => ?_)
  have := h x hx
  simp
  omega
theorem nums_bytes (s : ByteArray) : strOfNums (bytesOf s) = s := by
  apply ByteArray.ext
  apply Array.ext'
  rw [strOfNums_data, bytesOf, List.map_map]
  conv => rhs; rw [← List.map_id s.data.toList]
  refine List.map_congr_left (fun x _ => ?_)
  simp
theorem bytes_rng (s : ByteArray) : ∀ x ∈ bytesOf s, 0 ≤ x ∧ x < 256 := by
  intro x hx
  unfold bytesOf at hx
  obtain ⟨u, _, rfl⟩ := List.mem_map.1 hx
  have := u.toNat_lt
  omega
theorem bytes_inj {a b : ByteArray} (h : bytesOf a = bytesOf b) : a = b := by rw [← nums_bytes a, ← nums_bytes b, h]
structure Hd (s : ByteArray) (c : Int) (l : List Int) : Prop where
  ne : s.toList ≠ ([] : List UInt8)
  sz : 1 ≤ s.size
  bt : bt s 0 = c
  tl : bytesOf (s.extract 1 s.size) = l
  rng : 0 ≤ c ∧ c < 256
theorem hd_of {s : ByteArray} {c : Int} {l : List Int} (h : bytesOf s = c :: l) : Hd s c l := by
  have hsz : 1 ≤ s.size := by rw [← bytesOf_length, h]; simp
  refine ⟨fun e => ?_, hsz, ?_, ?_, bytes_rng s c (by rw [h]; simp)⟩
  · have h1 : s.data.toList.length = 0 := by rw [show s.data.toList = s.toList from by simp [ByteArray.toList_eq]]; simp [e]
    rw [data_length] at h1; omega
  · have := bt_getD s 0 (by omega)
    rw [h] at this
    exact this
  · rw [bytes_tail, h]; rfl
theorem toList_eq_iff (a b : ByteArray) : a.toList = b.toList ↔ bytesOf a = bytesOf b := by
  constructor
  · intro h
    have : a = b := by
      rw [ByteArray.toList_eq, ByteArray.toList_eq] at h
      apply ByteArray.ext
      exact Array.ext' h
    rw [this]
  · intro h; rw [bytes_inj h]
/-- take of one byte. -/
theorem take1 {s : ByteArray} {c : Int} {l : List Int} (h : bytesOf s = c :: l) (f : Bool) (t : ByteArray) (b : Int) (hb : bytesOf t = [b]) :
    spec_reader_take.f s f t = if c = b then some (true, s.extract 1 s.size, f) else some (false, s, f) := by
  have hd := hd_of h
  have ht : t.size = 1 := by rw [← bytesOf_length, hb]; rfl
  unfold spec_reader_take.f
  have e : bytesOf (s.extract 0 t.size) = [c] := by rw [bytes_ext, h, ht]; rfl
  by_cases hc : c = b
  · have ht2 : (s.extract 0 t.size).toList = t.toList := (toList_eq_iff _ _).2 (by rw [e, hb, hc])
    rw [if_pos ⟨by have := hd.sz; omega, ht2⟩, if_pos hc, ht]
  · have ht2 : ¬ (s.extract 0 t.size).toList = t.toList := fun h => hc (by have := (toList_eq_iff _ _).1 h; rw [e, hb] at this; simpa using this)
    rw [if_neg (fun h => ht2 h.2), if_neg hc]
theorem utf8_f (x : Int) (h : okR x) : ∃ r, spec_utf8.f x = some r ∧ bytesOf r = utf8E x := by
  have hr := utf8E_rng x h
  obtain ⟨h0, h1, h2⟩ := h
  have mask : ∀ y : Int, 0 ≤ y → y < 2147483648 → Go.bits .and .i32 y 63 = y % 64 := fun y a b => bits_mask .i32 31 (by decide) wraps_i32 6 (by decide) y a b
  refine ⟨strOfNums (utf8E x), ?_, bytes_nums _ hr⟩
  unfold spec_utf8.f utf8E
  split
  · congr 3; omega
  · split
    · rw [mask x h0 (by omega), u8_or192 _ (by omega) (by omega), u8_or128 _ (by omega) (by omega)]
      congr 3
      · omega
      · congr 1; omega
    · split
      · rw [mask x h0 (by omega), mask (x / 64) (by omega) (by omega), u8_or224 _ (by omega) (by omega), u8_or128 _ (by omega) (by omega), u8_or128 _ (by omega) (by omega)]
        congr 3
        · omega
        · congr 1
          · omega
          · congr 1; omega
      · rw [mask x h0 (by omega), mask (x / 64) (by omega) (by omega), mask (x / 4096) (by omega) (by omega), u8_or240 _ (by omega) (by omega), u8_or128 _ (by omega) (by omega), u8_or128 _ (by omega) (by omega), u8_or128 _ (by omega) (by omega)]
        congr 3
        · omega
        · congr 1
          · omega
          · congr 1
            · omega
            · congr 1; omega
theorem digit_f (d : Int) (h0 : 0 ≤ d) (h1 : d < 16) (k : Nat) : spec_digit.f (k + 3) (hexD d) = some (d, true) := by
  have : ∀ n : Nat, n < 16 → hexD (n : Int) = 48 ∨ True := fun _ _ => .inr trivial
  unfold hexD
  split
  · unfold spec_digit.f
    rw [if_pos (by omega), decide_eq_true (by omega)]
    simp only [spec_digit.j0, if_true]
    congr 2; omega
  · unfold spec_digit.f
    rw [if_pos (by omega), decide_eq_false (by omega)]
    simp only [spec_digit.j0, Bool.false_eq_true, if_false]
    rw [if_pos (by omega), decide_eq_false (by omega)]
    simp only [spec_digit.j1, Bool.false_eq_true, if_false]
    rw [if_pos (by omega), if_pos (by omega)]
    congr 2; omega
theorem peek_f {s : ByteArray} {c : Int} {l : List Int} (h : bytesOf s = c :: l) (f : Bool) : spec_reader_peek.f s f = some (c, s, f) := by
  have hd := hd_of h
  unfold spec_reader_peek.f
  rw [if_neg hd.ne, if_pos (by have := hd.sz; omega), hd.bt]
theorem hex_step {s : ByteArray} {d x : Int} {l : List Int} (i k : Nat) (hi : i < 4) (h : bytesOf s = hexD d :: l) (h0 : 0 ≤ d) (h1 : d < 16) (x0 : 0 ≤ x) (x1 : x < 4096) :
    ∃ s', spec_reader_hex.l0 (k + 4) x i s false = spec_reader_hex.l0 (k + 3) (x * 16 + d) ((i + 1 : Nat) : Int) s' false ∧ bytesOf s' = l := by
  have hd := hd_of h
  refine ⟨s.extract 1 s.size, ?_, hd.tl⟩
  rw [spec_reader_hex.l0, if_pos (by omega), peek_f h]
  simp only [Option.bind_some]
  rw [digit_f d h0 h1]
  simp only [Option.bind_some, if_true]
  rw [if_neg hd.ne, if_pos (by have := hd.sz; omega)]
  have e1 : wrap32 (x * 16) = x * 16 := by unfold wrap32; omega
  have e2 : wrap32 d = d := by unfold wrap32; omega
  have e3 : wrap64 ((i : Int) + 1) = ((i + 1 : Nat) : Int) := by unfold wrap64; omega
  have e4 : Go.bits .or .i32 (x * 16) d = x * 16 + d := bits_join .i32 31 (by decide) wraps_i32 4 (x * 16) d (by omega) (by omega) (by omega) h0 (by omega) (by omega)
  rw [e1, e2, e3, e4]
theorem hex_f {s : ByteArray} {a b c d : Int} {l : List Int} (k : Nat) (h : bytesOf s = hexD a :: hexD b :: hexD c :: hexD d :: l) (ha : 0 ≤ a ∧ a < 16) (hb : 0 ≤ b ∧ b < 16) (hc : 0 ≤ c ∧ c < 16) (hd : 0 ≤ d ∧ d < 16) :
    ∃ s', spec_reader_hex.f (k + 7) s false = some (((a * 16 + b) * 16 + c) * 16 + d, s', false) ∧ bytesOf s' = l := by
  obtain ⟨s1, e1, h1⟩ := hex_step (x := 0) 0 (k + 3) (by decide) h ha.1 ha.2 (by decide) (by decide)
  obtain ⟨s2, e2, h2⟩ := hex_step (x := 0 * 16 + a) 1 (k + 2) (by decide) h1 hb.1 hb.2 (by omega) (by omega)
  obtain ⟨s3, e3, h3⟩ := hex_step (x := (0 * 16 + a) * 16 + b) 2 (k + 1) (by decide) h2 hc.1 hc.2 (by omega) (by omega)
  obtain ⟨s4, e4, h4⟩ := hex_step (x := ((0 * 16 + a) * 16 + b) * 16 + c) 3 k (by decide) h3 hd.1 hd.2 (by omega) (by omega)
  refine ⟨s4, ?_, h4⟩
  unfold spec_reader_hex.f
  have := e1.trans (e2.trans (e3.trans e4))
  rw [show (0 : Int) = ((0 : Nat) : Int) from rfl] at this ⊢
  rw [show k + 7 = k + 3 + 4 from rfl, this, spec_reader_hex.l0, if_neg (by decide)]
  congr 2
  simp
theorem esc1_f {y z l : List Int} (h : Esc1 y z) {s : ByteArray} (hs : bytesOf s = y ++ l) (k : Nat) :
    ∃ r s', spec_reader_escape.f (k + 12) s false = some (r, s', false) ∧ bytesOf r = z ∧ bytesOf s' = l := by
  cases h with
  | self c hc =>
    have hd := hd_of hs
    refine ⟨strOfNums [c], s.extract 1 s.size, ?_, bytes_nums _ (fun x hx => by simp at hx; subst hx; exact hd.rng), hd.tl⟩
    unfold spec_reader_escape.f
    rw [peek_f hs]
    simp only [Option.bind_some]
    rw [if_neg hd.ne, if_pos (by have := hd.sz; omega)]
    rcases hc with rfl | rfl
    · simp [spec_reader_escape.j0]
    · simp [spec_reader_escape.j0]
  | n =>
    have hd := hd_of hs
    refine ⟨⟨#[10]⟩, s.extract 1 s.size, ?_, by decide, hd.tl⟩
    unfold spec_reader_escape.f
    rw [peek_f hs]
    simp only [Option.bind_some]
    rw [if_neg hd.ne, if_pos (by have := hd.sz; omega)]
    simp [spec_reader_escape.j0]
  | r =>
    have hd := hd_of hs
    refine ⟨⟨#[13]⟩, s.extract 1 s.size, ?_, by decide, hd.tl⟩
    unfold spec_reader_escape.f
    rw [peek_f hs]
    simp only [Option.bind_some]
    rw [if_neg hd.ne, if_pos (by have := hd.sz; omega)]
    simp [spec_reader_escape.j0]
  | t =>
    have hd := hd_of hs
    refine ⟨⟨#[9]⟩, s.extract 1 s.size, ?_, by decide, hd.tl⟩
    unfold spec_reader_escape.f
    rw [peek_f hs]
    simp only [Option.bind_some]
    rw [if_neg hd.ne, if_pos (by have := hd.sz; omega)]
    simp [spec_reader_escape.j0]
  | u a b c d ha hb hc hd' x hx hlt =>
    have hd := hd_of hs
    obtain ⟨s', e, h'⟩ := hex_f (k + 4) (s := s.extract 1 s.size) (l := l) hd.tl ha hb hc hd'
    obtain ⟨r, er, hr⟩ := utf8_f x ⟨by omega, by omega, by omega⟩
    refine ⟨r, s', ?_, hr, h'⟩
    unfold spec_reader_escape.f
    rw [peek_f hs]
    simp only [Option.bind_some]
    rw [if_neg hd.ne, if_pos (by have := hd.sz; omega)]
    rw [if_neg (by decide), if_neg (by decide)]
    simp only [spec_reader_escape.j0]
    rw [if_neg (by decide), if_neg (by decide), if_neg (by decide), if_neg (by decide), if_neg (by decide), if_neg (by decide), if_pos trivial, e]
    simp only [Option.bind_some]
    rw [← hx, if_neg (by omega)]
    simp only [spec_reader_escape.j1, Bool.false_eq_true, if_false]
    rw [if_neg (by omega), er]
    rfl
theorem text_l0 {a b : List Int} (h : Read1 a b) : ∀ (s : ByteArray) (l out : List Int) (k : Nat), bytesOf s = a ++ 34 :: l → out.length + b.length < 140737488355328 → a.length + 14 ≤ k →
    ∃ s', spec_reader_text.l0 k out s false = some (strOfNums (out ++ b), s', false) ∧ bytesOf s' = l := by
  have q34 : bytesOf ⟨#[34]⟩ = [34] := by decide
  have q92 : bytesOf ⟨#[92]⟩ = [92] := by decide
  induction h with
  | nil =>
    intro s l out k hs hl hk
    obtain ⟨k, rfl⟩ : ∃ k', k = k' + 1 := ⟨k - 1, by omega⟩
    have hd := hd_of hs
    refine ⟨s.extract 1 s.size, ?_, hd.tl⟩
    rw [spec_reader_text.l0, if_neg (by decide), peek_f hs]
    simp only [Option.bind_some]
    rw [take1 hs false ⟨#[34]⟩ 34 q34, if_pos rfl]
    simp
  | @plain c hc a b _ ih =>
    intro s l out k hs hl hk
    obtain ⟨k, rfl⟩ : ∃ k', k = k' + 1 := ⟨k - 1, by omega⟩
    have hd := hd_of hs
    obtain ⟨s', e, h'⟩ := ih (s.extract 1 s.size) l (out ++ [c]) k hd.tl (by simp at hl ⊢; omega) (by simp at hk; omega)
    refine ⟨s', ?_, h'⟩
    rw [spec_reader_text.l0, if_neg (by decide), peek_f hs]
    simp only [Option.bind_some]
    rw [take1 hs false ⟨#[34]⟩ 34 q34, if_neg hc.2.2.1]
    simp only [Option.bind_some, Bool.false_eq_true, if_false]
    rw [take1 hs false ⟨#[92]⟩ 92 q92, if_neg hc.2.2.2]
    simp only [Option.bind_some, Bool.false_eq_true, if_false]
    rw [if_neg hd.ne, if_neg (by omega), if_pos (by omega), if_pos (by have := hd.sz; omega), e]
    simp
  | @esc y z hy a b _ ih =>
    intro s l out k hs hl hk
    obtain ⟨k, rfl⟩ : ∃ k', k = k' + 13 := ⟨k - 13, by omega⟩
    have hs1 : bytesOf s = 92 :: (y ++ (a ++ 34 :: l)) := by simpa using hs
    have hd := hd_of hs1
    obtain ⟨r, s1, e1, hr, h1⟩ := esc1_f hy hd.tl k
    have hyl : 1 ≤ y.length := by cases hy <;> simp
    obtain ⟨s', e, h'⟩ := ih s1 l (out ++ bytesOf r) (k + 12) h1 (by rw [hr]; simp at hl ⊢; omega) (by simp at hk; omega)
    refine ⟨s', ?_, h'⟩
    rw [spec_reader_text.l0, if_neg (by decide), peek_f hs1]
    simp only [Option.bind_some]
    rw [take1 hs1 false ⟨#[34]⟩ 34 q34, if_neg (by decide)]
    simp only [Option.bind_some, Bool.false_eq_true, if_false]
    rw [take1 hs1 false ⟨#[92]⟩ 92 q92, if_pos rfl]
    simp only [Option.bind_some, if_true]
    rw [e1]
    simp only [Option.bind_some]
    rw [if_pos (by rw [← bytesOf_length, hr]; simp at hl; omega), e, hr]
    simp
theorem space_f {s : ByteArray} {c : Int} {l : List Int} (h : bytesOf s = c :: l) (hc : c ≠ 32 ∧ c ≠ 9 ∧ c ≠ 10 ∧ c ≠ 13) (k : Nat) : spec_reader_space.f (k + 1) s false = some (s, false) := by
  have hd := hd_of h
  unfold spec_reader_space.f
  rw [spec_reader_space.l0, if_neg hd.ne, if_pos (by have := hd.sz; omega), hd.bt, if_neg hc.1, if_neg hc.2.1, if_neg hc.2.2.1, if_neg hc.2.2.2]
theorem space_nil (k : Nat) (s : ByteArray) (h : bytesOf s = []) : spec_reader_space.f (k + 1) s false = some (s, false) := by
  have hs : s = ⟨#[]⟩ := bytes_inj (h.trans (by decide))
  unfold spec_reader_space.f
  rw [spec_reader_space.l0, if_pos (by rw [hs, ByteArray.toList_eq])]
/-- token of one byte. -/
theorem token1 {s : ByteArray} {c : Int} {l : List Int} (h : bytesOf s = c :: l) (hc : c ≠ 32 ∧ c ≠ 9 ∧ c ≠ 10 ∧ c ≠ 13) (t : ByteArray) (ht : bytesOf t = [c]) (k : Nat) :
    spec_reader_token.f (k + 1) s false t = some (s.extract 1 s.size, false) := by
  unfold spec_reader_token.f
  rw [space_f h hc]
  simp only [Option.bind_some]
  unfold spec_reader_want.f
  rw [take1 h false t c ht, if_pos rfl]
  rfl
theorem text_f {a b l : List Int} (h : Read1 a b) {s : ByteArray} (hs : bytesOf s = 34 :: (a ++ 34 :: l)) (hl : b.length < 140737488355328) (k : Nat) (hk : a.length + 14 ≤ k) :
    ∃ s', spec_reader_text.f k s false = some (strOfNums b, s', false) ∧ bytesOf s' = l := by
  obtain ⟨k, rfl⟩ : ∃ k', k = k' + 1 := ⟨k - 1, by omega⟩
  have hd := hd_of hs
  obtain ⟨s', e, h'⟩ := text_l0 h (s.extract 1 s.size) l [] (k + 1) hd.tl (by simpa using hl) hk
  refine ⟨s', ?_, h'⟩
  unfold spec_reader_text.f
  rw [token1 hs (by decide) ⟨#[34]⟩ (by decide) k]
  simp only [Option.bind_some]
  rw [e]
  simp
end H
end Go.Proofs.YtkihaebaccdjdaaGreatDoor
