import Derived.Test.YtkihaebaccdjdaaGreatDoorJ17
import Derived.Test.YtkihaebaccdjdaaGreatDoorJ19
import Derived.Test.YtkihaebaccdjdaaGreatDoorJ24
import Derived.Test.YtkihaebaccdjdaaGreatDoorJ14
import Derived.Deep.RegionHeld3
set_option linter.unusedVariables false
set_option linter.unusedSimpArgs false
namespace Go.Proofs.YtkihaebaccdjdaaGreatDoor
open Go.RowKit Go.Proofs.YtkihaebaccdjdaaGreatDoorW.PrintWords Go.Proofs.YtkihaebaccdjdaaGreatDoorW.PrintLast Go.Proofs.YtkihaebaccdjdaaGreatDoorW.PrintMore
open PX
namespace H
/-! ### What spec.reader reads of a string of JSON (plain) -/
theorem bytes_nums (l : List Int) (h : ∀ x ∈ l, 0 ≤ x ∧ x < 256) : bytesOf (strOfNums l) = l := by
 unfold bytesOf
 rw [strOfNums_data, List.map_map]
 conv => rhs; rw [← List.map_id l]
 refine List.map_congr_left (fun x hx => ?_)
 have := h x hx
 simp
 omega
theorem nums_bytes (s : ByteArray) : strOfNums (bytesOf s) = s := by
 apply ByteArray.ext
 apply Array.ext'
 rw [strOfNums_data, bytesOf, List.map_map]
 conv => rhs; rw [← List.map_id s.data.toList]
 refine List.map_congr_left (fun x _ => ?_)
 simp
theorem bytes_rng (s : ByteArray) : ∀ x ∈ bytesOf s, 0 ≤ x ∧ x < 256 := by
 intro x hx
 unfold bytesOf at hx
 obtain ⟨u, _, rfl⟩ := List.mem_map.1 hx
 have := u.toNat_lt
 omega
theorem bytes_inj {a b : ByteArray} (h : bytesOf a = bytesOf b) : a = b := by rw [← nums_bytes a, ← nums_bytes b, h]
structure Hd (s : ByteArray) (c : Int) (l : List Int) : Prop where
 ne : s.toList ≠ ([] : List UInt8)
 sz : 1 ≤ s.size
 bt : bt s 0 = c
 tl : bytesOf (s.extract 1 s.size) = l
 rng : 0 ≤ c ∧ c < 256
theorem hd_of {s : ByteArray} {c : Int} {l : List Int} (h : bytesOf s = c :: l) : Hd s c l := by
 have hsz : 1 ≤ s.size := by rw [← bytesOf_length, h]; simp
 refine ⟨fun e => ?_, hsz, ?_, ?_, bytes_rng s c (by rw [h]; simp)⟩
 ·have h1 : s.data.toList.length = 0 := by rw [show s.data.toList = s.toList from by simp [ByteArray.toList_eq]]; simp [e]
  rw [data_length] at h1; omega
 ·have := bt_getD s 0 (by omega)
  rw [h] at this
  exact this
 ·rw [bytes_tail, h]; rfl
theorem toList_eq_iff (a b : ByteArray) : a.toList = b.toList ↔ bytesOf a = bytesOf b := by
 constructor
 ·intro h
  have : a = b := by
   rw [ByteArray.toList_eq, ByteArray.toList_eq] at h
   apply ByteArray.ext
   exact Array.ext' h
  rw [this]
 ·intro h; rw [bytes_inj h]
/-- take of one byte. -/
theorem take1 {s : ByteArray} {c : Int} {l : List Int} (h : bytesOf s = c :: l) (f : Bool) (t : ByteArray) (b : Int) (hb : bytesOf t = [b]) :
 spec_reader_take.f s f t = if c = b then some (true, s.extract 1 s.size, f) else some (false, s, f) := by
 have hd := hd_of h
 have ht : t.size = 1 := by rw [← bytesOf_length, hb]; rfl
 unfold spec_reader_take.f
 have e : bytesOf (s.extract 0 t.size) = [c] := by rw [bytes_ext, h, ht]; rfl
 by_cases hc : c = b
 ·have ht2 : (s.extract 0 t.size).toList = t.toList := (toList_eq_iff _ _).2 (by rw [e, hb, hc])
  rw [if_pos ⟨by have := hd.sz; omega, ht2⟩, if_pos hc, ht]
 ·have ht2 : ¬ (s.extract 0 t.size).toList = t.toList := fun h => hc (by have := (toList_eq_iff _ _).1 h; rw [e, hb] at this; simpa using this)
  rw [if_neg (fun h => ht2 h.2), if_neg hc]
theorem utf8_f (x : Int) (h : okR x) : ∃ r, spec_utf8.f x = some r ∧ bytesOf r = utf8E x := by
 have hr := utf8E_rng x h
 obtain ⟨h0, h1, h2⟩ := h
 have mask : ∀ y : Int, 0 ≤ y → y < 2147483648 → Go.bits .and .i32 y 63 = y % 64 := fun y a b => bits_mask .i32 31 (by decide) wraps_i32 6 (by decide) y a b
 refine ⟨strOfNums (utf8E x), ?_, bytes_nums _ hr⟩
 unfold spec_utf8.f utf8E
 split
 ·congr 3; omega
 ·split
  ·rw [mask x h0 (by omega), u8_or192 _ (by omega) (by omega), u8_or128 _ (by omega) (by omega)]
   congr 3
   ·omega
   ·congr 1; omega
  ·split
   ·rw [mask x h0 (by omega), mask (x / 64) (by omega) (by omega), u8_or224 _ (by omega) (by omega), u8_or128 _ (by omega) (by omega), u8_or128 _ (by omega) (by omega)]
    congr 3
    ·omega
    ·congr 1
     ·omega
     ·congr 1; omega
   ·rw [mask x h0 (by omega), mask (x / 64) (by omega) (by omega), mask (x / 4096) (by omega) (by omega), u8_or240 _ (by omega) (by omega), u8_or128 _ (by omega) (by omega), u8_or128 _ (by omega) (by omega), u8_or128 _ (by omega) (by omega)]
    congr 3
    ·omega
    ·congr 1
     ·omega
     ·congr 1
      ·omega
      ·congr 1; omega
theorem digit_f (d : Int) (h0 : 0 ≤ d) (h1 : d < 16) (k : Nat) : spec_digit.f (k + 3) (hexD d) = some (d, true) := by
 have : ∀ n : Nat, n < 16 → hexD (n : Int) = 48 ∨ True := fun _ _ => .inr trivial
 unfold hexD
 split
 ·unfold spec_digit.f
  rw [if_pos (by omega), decide_eq_true (by omega)]
  simp only [spec_digit.j0, if_true]
  congr 2; omega
 ·unfold spec_digit.f
  rw [if_pos (by omega), decide_eq_false (by omega)]
  simp only [spec_digit.j0, Bool.false_eq_true, if_false]
  rw [if_pos (by omega), decide_eq_false (by omega)]
  simp only [spec_digit.j1, Bool.false_eq_true, if_false]
  rw [if_pos (by omega), if_pos (by omega)]
  congr 2; omega
theorem peek_f {s : ByteArray} {c : Int} {l : List Int} (h : bytesOf s = c :: l) (f : Bool) : spec_reader_peek.f s f = some (c, s, f) := by
 have hd := hd_of h
 unfold spec_reader_peek.f
 rw [if_neg hd.ne, if_pos (by have := hd.sz; omega), hd.bt]
theorem hex_step {s : ByteArray} {d x : Int} {l : List Int} (i k : Nat) (hi : i < 4) (h : bytesOf s = hexD d :: l) (h0 : 0 ≤ d) (h1 : d < 16) (x0 : 0 ≤ x) (x1 : x < 4096) :
 ∃ s', spec_reader_hex.l0 (k + 4) x i s false = spec_reader_hex.l0 (k + 3) (x * 16 + d) ((i + 1 : Nat) : Int) s' false ∧ bytesOf s' = l := by
 have hd := hd_of h
 refine ⟨s.extract 1 s.size, ?_, hd.tl⟩
 rw [spec_reader_hex.l0, if_pos (by omega), peek_f h]
 simp only [Option.bind_some]
 rw [digit_f d h0 h1]
 simp only [Option.bind_some, if_true]
 rw [if_neg hd.ne, if_pos (by have := hd.sz; omega)]
 have e1 : wrap32 (x * 16) = x * 16 := by unfold wrap32; omega
 have e2 : wrap32 d = d := by unfold wrap32; omega
 have e3 : wrap64 ((i : Int) + 1) = ((i + 1 : Nat) : Int) := by unfold wrap64; omega
 have e4 : Go.bits .or .i32 (x * 16) d = x * 16 + d := bits_join .i32 31 (by decide) wraps_i32 4 (x * 16) d (by omega) (by omega) (by omega) h0 (by omega) (by omega)
 rw [e1, e2, e3, e4]
theorem hex_f {s : ByteArray} {a b c d : Int} {l : List Int} (k : Nat) (h : bytesOf s = hexD a :: hexD b :: hexD c :: hexD d :: l) (ha : 0 ≤ a ∧ a < 16) (hb : 0 ≤ b ∧ b < 16) (hc : 0 ≤ c ∧ c < 16) (hd : 0 ≤ d ∧ d < 16) :
 ∃ s', spec_reader_hex.f (k + 7) s false = some (((a * 16 + b) * 16 + c) * 16 + d, s', false) ∧ bytesOf s' = l := by
 obtain ⟨s1, e1, h1⟩ := hex_step (x := 0) 0 (k + 3) (by decide) h ha.1 ha.2 (by decide) (by decide)
 obtain ⟨s2, e2, h2⟩ := hex_step (x := 0 * 16 + a) 1 (k + 2) (by decide) h1 hb.1 hb.2 (by omega) (by omega)
 obtain ⟨s3, e3, h3⟩ := hex_step (x := (0 * 16 + a) * 16 + b) 2 (k + 1) (by decide) h2 hc.1 hc.2 (by omega) (by omega)
 obtain ⟨s4, e4, h4⟩ := hex_step (x := ((0 * 16 + a) * 16 + b) * 16 + c) 3 k (by decide) h3 hd.1 hd.2 (by omega) (by omega)
 refine ⟨s4, ?_, h4⟩
 unfold spec_reader_hex.f
 have := e1.trans (e2.trans (e3.trans e4))
 rw [show (0 : Int) = ((0 : Nat) : Int) from rfl] at this ⊢
 rw [show k + 7 = k + 3 + 4 from rfl, this, spec_reader_hex.l0, if_neg (by decide)]
 congr 2
 simp
theorem esc1_f {y z l : List Int} (h : Esc1 y z) {s : ByteArray} (hs : bytesOf s = y ++ l) (k : Nat) :
 ∃ r s', spec_reader_escape.f (k + 12) s false = some (r, s', false) ∧ bytesOf r = z ∧ bytesOf s' = l := by
 cases h with
 | self c hc =>
   have hd := hd_of hs
   refine ⟨strOfNums [c], s.extract 1 s.size, ?_, bytes_nums _ (fun x hx => by simp at hx; subst hx; exact hd.rng), hd.tl⟩
   unfold spec_reader_escape.f
   rw [peek_f hs]
   simp only [Option.bind_some]
   rw [if_neg hd.ne, if_pos (by have := hd.sz; omega)]
   rcases hc with rfl | rfl
   ·simp [spec_reader_escape.j0]
   ·simp [spec_reader_escape.j0]
 | n =>
   have hd := hd_of hs
   refine ⟨⟨#[10]⟩, s.extract 1 s.size, ?_, by decide, hd.tl⟩
   unfold spec_reader_escape.f
   rw [peek_f hs]
   simp only [Option.bind_some]
   rw [if_neg hd.ne, if_pos (by have := hd.sz; omega)]
   simp [spec_reader_escape.j0]
 | r =>
   have hd := hd_of hs
   refine ⟨⟨#[13]⟩, s.extract 1 s.size, ?_, by decide, hd.tl⟩
   unfold spec_reader_escape.f
   rw [peek_f hs]
   simp only [Option.bind_some]
   rw [if_neg hd.ne, if_pos (by have := hd.sz; omega)]
   simp [spec_reader_escape.j0]
 | t =>
   have hd := hd_of hs
   refine ⟨⟨#[9]⟩, s.extract 1 s.size, ?_, by decide, hd.tl⟩
   unfold spec_reader_escape.f
   rw [peek_f hs]
   simp only [Option.bind_some]
   rw [if_neg hd.ne, if_pos (by have := hd.sz; omega)]
   simp [spec_reader_escape.j0]
 | u a b c d ha hb hc hd' x hx hlt =>
   have hd := hd_of hs
   obtain ⟨s', e, h'⟩ := hex_f (k + 4) (s := s.extract 1 s.size) (l := l) hd.tl ha hb hc hd'
   obtain ⟨r, er, hr⟩ := utf8_f x ⟨by omega, by omega, by omega⟩
   refine ⟨r, s', ?_, hr, h'⟩
   unfold spec_reader_escape.f
   rw [peek_f hs]
   simp only [Option.bind_some]
   rw [if_neg hd.ne, if_pos (by have := hd.sz; omega)]
   rw [if_neg (by decide), if_neg (by decide)]
   simp only [spec_reader_escape.j0]
   rw [if_neg (by decide), if_neg (by decide), if_neg (by decide), if_neg (by decide), if_neg (by decide), if_neg (by decide), if_pos trivial, e]
   simp only [Option.bind_some]
   rw [← hx, if_neg (by omega)]
   simp only [spec_reader_escape.j1, Bool.false_eq_true, if_false]
   rw [if_neg (by omega), er]
   rfl
theorem text_l0 {a b : List Int} (h : Read1 a b) : ∀ (s : ByteArray) (l out : List Int) (k : Nat), bytesOf s = a ++ 34 :: l → out.length + b.length < 140737488355328 → a.length + 14 ≤ k →
 ∃ s', spec_reader_text.l0 k out s false = some (strOfNums (out ++ b), s', false) ∧ bytesOf s' = l := by
 have q34 : bytesOf ⟨#[34]⟩ = [34] := by decide
 have q92 : bytesOf ⟨#[92]⟩ = [92] := by decide
 induction h with
 | nil =>
   intro s l out k hs hl hk
   obtain ⟨k, rfl⟩ : ∃ k', k = k' + 1 := ⟨k - 1, by omega⟩
   have hd := hd_of hs
   refine ⟨s.extract 1 s.size, ?_, hd.tl⟩
   rw [spec_reader_text.l0, if_neg (by decide), peek_f hs]
   simp only [Option.bind_some]
   rw [take1 hs false ⟨#[34]⟩ 34 q34, if_pos rfl]
   simp
 | @plain c hc a b _ ih =>
   intro s l out k hs hl hk
   obtain ⟨k, rfl⟩ : ∃ k', k = k' + 1 := ⟨k - 1, by omega⟩
   have hd := hd_of hs
   obtain ⟨s', e, h'⟩ := ih (s.extract 1 s.size) l (out ++ [c]) k hd.tl (by simp at hl ⊢; omega) (by simp at hk; omega)
   refine ⟨s', ?_, h'⟩
   rw [spec_reader_text.l0, if_neg (by decide), peek_f hs]
   simp only [Option.bind_some]
   rw [take1 hs false ⟨#[34]⟩ 34 q34, if_neg hc.2.2.1]
   simp only [Option.bind_some, Bool.false_eq_true, if_false]
   rw [take1 hs false ⟨#[92]⟩ 92 q92, if_neg hc.2.2.2]
   simp only [Option.bind_some, Bool.false_eq_true, if_false]
   rw [if_neg hd.ne, if_neg (by omega), if_pos (by omega), if_pos (by have := hd.sz; omega), e]
   simp
 | @esc y z hy a b _ ih =>
   intro s l out k hs hl hk
   obtain ⟨k, rfl⟩ : ∃ k', k = k' + 13 := ⟨k - 13, by omega⟩
   have hs1 : bytesOf s = 92 :: (y ++ (a ++ 34 :: l)) := by simpa using hs
   have hd := hd_of hs1
   obtain ⟨r, s1, e1, hr, h1⟩ := esc1_f hy hd.tl k
   have hyl : 1 ≤ y.length := by cases hy <;> simp
   obtain ⟨s', e, h'⟩ := ih s1 l (out ++ bytesOf r) (k + 12) h1 (by rw [hr]; simp at hl ⊢; omega) (by simp at hk; omega)
   refine ⟨s', ?_, h'⟩
   rw [spec_reader_text.l0, if_neg (by decide), peek_f hs1]
   simp only [Option.bind_some]
   rw [take1 hs1 false ⟨#[34]⟩ 34 q34, if_neg (by decide)]
   simp only [Option.bind_some, Bool.false_eq_true, if_false]
   rw [take1 hs1 false ⟨#[92]⟩ 92 q92, if_pos rfl]
   simp only [Option.bind_some, if_true]
   rw [e1]
   simp only [Option.bind_some]
   rw [if_pos (by rw [← bytesOf_length, hr]; simp at hl; omega), e, hr]
   simp
theorem space_f {s : ByteArray} {c : Int} {l : List Int} (h : bytesOf s = c :: l) (hc : c ≠ 32 ∧ c ≠ 9 ∧ c ≠ 10 ∧ c ≠ 13) (k : Nat) : spec_reader_space.f (k + 1) s false = some (s, false) := by
 have hd := hd_of h
 unfold spec_reader_space.f
 rw [spec_reader_space.l0, if_neg hd.ne, if_pos (by have := hd.sz; omega), hd.bt, if_neg hc.1, if_neg hc.2.1, if_neg hc.2.2.1, if_neg hc.2.2.2]
theorem space_nil (k : Nat) (s : ByteArray) (h : bytesOf s = []) : spec_reader_space.f (k + 1) s false = some (s, false) := by
 have hs : s = ⟨#[]⟩ := bytes_inj (h.trans (by decide))
 unfold spec_reader_space.f
 rw [spec_reader_space.l0, if_pos (by rw [hs, ByteArray.toList_eq])]
/-- token of one byte. -/
theorem token1 {s : ByteArray} {c : Int} {l : List Int} (h : bytesOf s = c :: l) (hc : c ≠ 32 ∧ c ≠ 9 ∧ c ≠ 10 ∧ c ≠ 13) (t : ByteArray) (ht : bytesOf t = [c]) (k : Nat) :
 spec_reader_token.f (k + 1) s false t = some (s.extract 1 s.size, false) := by
 unfold spec_reader_token.f
 rw [space_f h hc]
 simp only [Option.bind_some]
 unfold spec_reader_want.f
 rw [take1 h false t c ht, if_pos rfl]
 rfl
theorem text_f {a b l : List Int} (h : Read1 a b) {s : ByteArray} (hs : bytesOf s = 34 :: (a ++ 34 :: l)) (hl : b.length < 140737488355328) (k : Nat) (hk : a.length + 14 ≤ k) :
 ∃ s', spec_reader_text.f k s false = some (strOfNums b, s', false) ∧ bytesOf s' = l := by
 obtain ⟨k, rfl⟩ : ∃ k', k = k' + 1 := ⟨k - 1, by omega⟩
 have hd := hd_of hs
 obtain ⟨s', e, h'⟩ := text_l0 h (s.extract 1 s.size) l [] (k + 1) hd.tl (by simpa using hl) hk
 refine ⟨s', ?_, h'⟩
 unfold spec_reader_text.f
 rw [token1 hs (by decide) ⟨#[34]⟩ (by decide) k]
 simp only [Option.bind_some]
 rw [e]
 simp
end H
end Go.Proofs.YtkihaebaccdjdaaGreatDoor
set_option linter.unusedVariables false
set_option linter.unusedSimpArgs false
namespace Go.Proofs.YtkihaebaccdjdaaGreatDoor
open Go.RowKit Go.Proofs.YtkihaebaccdjdaaGreatDoorW.PrintWords Go.Proofs.YtkihaebaccdjdaaGreatDoorW.PrintLast Go.Proofs.YtkihaebaccdjdaaGreatDoorW.PrintMore
open PX
namespace H
/-! ### spec.Text of a text, reader.value of a string, SaysJSON -/
set_option maxRecDepth 100000 in
theorem text0 (s : ByteArray) (num : Int) (w : World) : Calls Tryz.prog 82 #[.int .i64 0, .string s, .int .i64 num] w fun e w' => e = .returned (.string s) ∧ Below w.heap.size w w' := by
 go_enter Tryz.func82, Tryz.ntmps82
 go_wp2
 go_ret
 exact ⟨rfl, Below.refl _ _⟩
theorem drewB0 (B : Nat) (w : World) : Below B w w.drew := ⟨rfl, rfl, rfl, Nat.le_refl _, fun _ _ => rfl⟩
theorem keep_undrew {w w' : World} {g : Nat} {r : Option Nat} (h : KeepBut w.drew w' g r) : KeepBut w w' g r := h
theorem below_low {B : Nat} {w w' : World} (h : Below w.heap.size w w') {g : Nat} (hg : B ≤ g) (hg' : g < w.heap.size) : Below B w w' := ⟨h.os, h.tape, h.output, h.size, fun k hk => h.block k (by omega)⟩
set_option maxHeartbeats 8000000 in
set_option maxRecDepth 100000 in
theorem valT {T rs rs' : ByteArray} {k g : Nat} (kd : Int) (s : ByteArray) (num : Int) (item kn vn : ByteArray) (a1 a2 a3 a4 : Option Addr) (n1 n2 n3 n4 c1 c2 c3 c4 : Nat) (w0 w : World) (hkd : kd = 0 ∨ kd = 6) (hX : ∀ w : World, Calls Tryz.prog 82 #[.int .i64 kd, .string s, .int .i64 num] w fun e w' => e = .returned (.string T) ∧ Below w.heap.size w w')
 (hI : IsS80 w0 w g rs false) (hB : Below w0.heap.size w0 w) (hf : spec_reader_text.f k rs false = some (T, rs', false)) :
 Calls Tryz.prog 36 #[.pointer (some ⟨g, 0, none⟩), ND kd s num (.slice a1 n1 c1) (.slice a2 n2 c2) (.slice a3 n3 c3) item kn vn (.slice a4 n4 c4)] w fun e w' => e = .returned (.tuple #[]) ∧ IsS80 w0 w' g rs' false ∧ Below w0.heap.size w0 w' ∧ KeepBut w w' g none := by
 replace hX := Aside0.mk hX; replace hf := Aside0.mk hf
 have hb := below_alloc (Below.refl w.heap.size w) (.cells #[.int .i64 kd, .string s, .int .i64 num, .slice a1 n1 c1, .slice a2 n2 c2, .slice a3 n3 c3, .string item, .string kn, .string vn, .slice a4 n4 c4] 28)
 have hk1 := heap_new w (.cells #[.int .i64 kd, .string s, .int .i64 num, .slice a1 n1 c1, .slice a2 n2 c2, .slice a3 n3 c3, .string item, .string kn, .string vn, .slice a4 n4 c4] 28)
 have hI1 := Aside0.mk (hI.below hb)
 have hB1 := Aside0.mk (hB.trans (below_low hb (IsS80.ge hI) (IsS80.lt hI)))
 have hgn : Aside0 (w.heap.size ≠ g) := .mk (by have := IsS80.lt hI; omega)
 have hK1 := Aside0.mk (KeepBut.of_below hb g none)
 replace hk1 := Aside0.mk hk1
 clear hI hB hb
 unfold ND
 rcases hkd with rfl | rfl
 ·go_enter Tryz.func36, Tryz.ntmps36
  go_wp2_with fail
  generalize w.alloc (.cells #[.int .i64 0, .string s, .int .i64 num, .slice a1 n1 c1, .slice a2 n2 c2, .slice a3 n3 c3, .string item, .string kn, .string vn, .slice a4 n4 c4] 28) = w1 at *
  obtain ⟨nb, hnb⟩ : ∃ nb, w.heap.size = nb := ⟨_, rfl⟩
  rw [hnb] at hk1 hgn ⊢
  have hk := hk1.out
  have q0 := cell_at hk 0; have q1 := cell_at hk 1; have q2 := cell_at hk 2
  simp at q0 q1 q2
  clear hk
  go_region_held3 (fun w' => w'.cell? ⟨nb, 0, none⟩ = some (.int .i64 0) ∧ w'.cell? ⟨nb, 1, none⟩ = some (.string s) ∧ w'.cell? ⟨nb, 2, none⟩ = some (.int .i64 num)) (simp [*, World.cell?_setCell_far]) (first | ((go_at_call 84; refine (spec_reader_text.calls k g rs false T rs' false w0 w1.drew hI1.out.drew (hB1.out.trans (drewB0 _ _)) hf.out).mono ?_; rintro e w2 ⟨rfl, hI2, hB2, hK2⟩; have hk2 := hK2.2 nb (lt_of hk1.out) hgn.out (by simp); replace hk2 := hk2.trans hk1.out; have q0 := cell_at hk2 0; have q1 := cell_at hk2 1; have q2 := cell_at hk2 2; simp at q0 q1 q2; replace hI2 := Aside0.mk hI2; replace hB2 := Aside0.mk hB2; replace hK2 := Aside0.mk (keep_undrew hK2); replace hk2 := Aside0.mk hk2)) | ((go_at_call 82; refine (hX.out w2).mono ?_; rintro e w3 ⟨rfl, hb⟩; have hI3 := Aside0.mk (hI2.out.below hb); have hB3 := Aside0.mk (hB2.out.trans (below_low hb (IsS80.ge hI2.out) (IsS80.lt hI2.out))); have hK3 := Aside0.mk (hK2.out.trans (KeepBut.of_below hb g none) (.inl rfl)); have hk3 := heap_below hb hk2.out; have q0 := cell_at hk3 0; have q1 := cell_at hk3 1; have q2 := cell_at hk3 2; simp at q0 q1 q2; clear hb; replace hk3 := Aside0.mk hk3)))
  all_goals
   go_wp2
   refine bodyPost_end (results_none rfl _ _ _) rfl ?_
   exact ⟨rfl, hI3.out, hB3.out, hK1.out.trans hK3.out (.inl rfl)⟩
 ·go_enter Tryz.func36, Tryz.ntmps36
  go_wp2_with fail
  generalize w.alloc (.cells #[.int .i64 6, .string s, .int .i64 num, .slice a1 n1 c1, .slice a2 n2 c2, .slice a3 n3 c3, .string item, .string kn, .string vn, .slice a4 n4 c4] 28) = w1 at *
  obtain ⟨nb, hnb⟩ : ∃ nb, w.heap.size = nb := ⟨_, rfl⟩
  rw [hnb] at hk1 hgn ⊢
  have hk := hk1.out
  have q0 := cell_at hk 0; have q1 := cell_at hk 1; have q2 := cell_at hk 2
  simp at q0 q1 q2
  clear hk
  go_region_held3 (fun w' => w'.cell? ⟨nb, 0, none⟩ = some (.int .i64 6) ∧ w'.cell? ⟨nb, 1, none⟩ = some (.string s) ∧ w'.cell? ⟨nb, 2, none⟩ = some (.int .i64 num)) (simp [*, World.cell?_setCell_far]) (first | ((go_at_call 84; refine (spec_reader_text.calls k g rs false T rs' false w0 w1.drew hI1.out.drew (hB1.out.trans (drewB0 _ _)) hf.out).mono ?_; rintro e w2 ⟨rfl, hI2, hB2, hK2⟩; have hk2 := hK2.2 nb (lt_of hk1.out) hgn.out (by simp); replace hk2 := hk2.trans hk1.out; have q0 := cell_at hk2 0; have q1 := cell_at hk2 1; have q2 := cell_at hk2 2; simp at q0 q1 q2; replace hI2 := Aside0.mk hI2; replace hB2 := Aside0.mk hB2; replace hK2 := Aside0.mk (keep_undrew hK2); replace hk2 := Aside0.mk hk2)) | ((go_at_call 82; refine (hX.out w2).mono ?_; rintro e w3 ⟨rfl, hb⟩; have hI3 := Aside0.mk (hI2.out.below hb); have hB3 := Aside0.mk (hB2.out.trans (below_low hb (IsS80.ge hI2.out) (IsS80.lt hI2.out))); have hK3 := Aside0.mk (hK2.out.trans (KeepBut.of_below hb g none) (.inl rfl)); have hk3 := heap_below hb hk2.out; have q0 := cell_at hk3 0; have q1 := cell_at hk3 1; have q2 := cell_at hk3 2; simp at q0 q1 q2; clear hb; replace hk3 := Aside0.mk hk3)))
  all_goals
   go_wp2
   refine bodyPost_end (results_none rfl _ _ _) rfl ?_
   exact ⟨rfl, hI3.out, hB3.out, hK1.out.trans hK3.out (.inl rfl)⟩
end H
end Go.Proofs.YtkihaebaccdjdaaGreatDoor
set_option linter.unusedVariables false
set_option linter.unusedSimpArgs false
namespace Go.Proofs.YtkihaebaccdjdaaGreatDoor
open Go.RowKit Go.Proofs.YtkihaebaccdjdaaGreatDoorW.PrintWords Go.Proofs.YtkihaebaccdjdaaGreatDoorW.PrintLast Go.Proofs.YtkihaebaccdjdaaGreatDoorW.PrintMore
open PX
namespace H
/-! ### Nodes in memory: where a node's rows lie -/
structure NA where
  a3 : Option Addr
  c3 : Nat
  a4 : Option Addr
  c4 : Nat
  a5 : Option Addr
  c5 : Nat
  a9 : Option Addr
  c9 : Nat
def NV (x : S28) (p : NA) : Value := .agg #[.int .i64 x.f0, .string x.f1, .int .i64 x.f2, .slice p.a3 x.f3.length p.c3, .slice p.a4 x.f4.length p.c4, .slice p.a5 x.f5.length p.c5, .string x.f6, .string x.f7, .string x.f8, .slice p.a9 x.f9.length p.c9]
structure NH (w : World) (x : S28) (p : NA) : Prop where
  h3 : Kd.C Kd.string w p.a3 x.f3.length x.f3
  l3 : x.f3.length ≤ p.c3
  h4 : Kd.C k28 w p.a4 x.f4.length x.f4
  l4 : x.f4.length ≤ p.c4
  h5 : Kd.C Kd.bool w p.a5 x.f5.length x.f5
  l5 : x.f5.length ≤ p.c5
  h9 : Kd.C k45 w p.a9 x.f9.length x.f9
  l9 : x.f9.length ≤ p.c9
/-- One element's cells. -/
structure KC (w : World) (ad : Addr) (x : S28) (q : NA) : Prop where
  m0 : w.cell? ad = some (.int .i64 x.f0)
  m1 : w.cell? ⟨ad.block, ad.off + 1, none⟩ = some (.string x.f1)
  m2 : w.cell? ⟨ad.block, ad.off + 2, none⟩ = some (.int .i64 x.f2)
  m3 : w.cell? ⟨ad.block, ad.off + 3, none⟩ = some (.slice q.a3 x.f3.length q.c3)
  m4 : w.cell? ⟨ad.block, ad.off + 4, none⟩ = some (.slice q.a4 x.f4.length q.c4)
  m5 : w.cell? ⟨ad.block, ad.off + 5, none⟩ = some (.slice q.a5 x.f5.length q.c5)
  m6 : w.cell? ⟨ad.block, ad.off + 6, none⟩ = some (.string x.f6)
  m7 : w.cell? ⟨ad.block, ad.off + 7, none⟩ = some (.string x.f7)
  m8 : w.cell? ⟨ad.block, ad.off + 8, none⟩ = some (.string x.f8)
  m9 : w.cell? ⟨ad.block, ad.off + 9, none⟩ = some (.slice q.a9 x.f9.length q.c9)
theorem cell_below {w w1 : World} (hb : Below w.heap.size w w1) {a : Addr} {v : Value} (h : w.cell? a = some v) : w1.cell? a = some v := (hb.cell (World.block_lt_of_cell? w _ h)).trans h
theorem KC.below {w w1 : World} {ad : Addr} {x : S28} {q : NA} (h : KC w ad x q) (hb : Below w.heap.size w w1) : KC w1 ad x q :=
  ⟨cell_below hb h.m0, cell_below hb h.m1, cell_below hb h.m2, cell_below hb h.m3, cell_below hb h.m4, cell_below hb h.m5, cell_below hb h.m6, cell_below hb h.m7, cell_below hb h.m8, cell_below hb h.m9⟩
namespace NH
variable {w w1 : World} {x : S28} {p : NA}
theorem below (h : NH w x p) (hb : Below w.heap.size w w1) : NH w1 x p :=
  ⟨Kd.C_below h.h3 hb, h.l3, Kd.C_below h.h4 hb, h.l4, Kd.C_below h.h5 hb, h.l5, Kd.C_below h.h9 hb, h.l9⟩
theorem name (h : NH w x p) (i : Nat) (hi : i < x.f3.length) : ∃ ad, p.a3 = some ad ∧ w.cell? (ad.add i) = some (.string (x.f3.getD i ByteArray.empty)) := by
  obtain ⟨ad, e, hc⟩ := Kd.at_string h.h3 (i : Int) (by omega) (by omega)
  exact ⟨ad, e, by simpa [rdOf] using hc⟩
theorem kid (h : NH w x p) (i : Nat) (hi : i < x.f4.length) : ∃ ad q, p.a4 = some ad ∧ KC w (ad.add (i * 10)) (x.f4.getD i z28) q ∧ NH w (x.f4.getD i z28) q := by
  obtain ⟨ad, A3, c3, A4, c4, A5, c5, A9, c9, e, m0, m1, m2, m3, m4, m5, m6, m7, m8, m9, l3, g3, l4, g4, l5, g5, l9, g9⟩ := at_T28 h.h4 (i : Int) (by omega) (by omega)
  have hn : ((i : Int)).toNat = i := by simp
  simp only [rd_T28, hn] at m0 m1 m2 m3 m4 m5 m6 m7 m8 m9 l3 g3 l4 g4 l5 g5 l9 g9
  exact ⟨ad, ⟨A3, c3, A4, c4, A5, c5, A9, c9⟩, e, ⟨m0, m1, m2, m3, m4, m5, m6, m7, m8, m9⟩, ⟨g3, l3, g4, l4, g5, l5, g9, l9⟩⟩
theorem attr (h : NH w x p) (i : Nat) (hi : i < x.f9.length) : ∃ ad, p.a9 = some ad ∧ w.cell? (ad.add (i * 3)) = some (.string (x.f9.getD i z45).f0) ∧ w.cell? ⟨(ad.add (i * 3)).block, (ad.add (i * 3)).off + 1, none⟩ = some (.string (x.f9.getD i z45).f1) ∧ w.cell? ⟨(ad.add (i * 3)).block, (ad.add (i * 3)).off + 2, none⟩ = some (.bool (x.f9.getD i z45).f2) := by
  obtain ⟨ad, e, m0, m1, m2⟩ := at_T45 h.h9 (i : Int) (by omega) (by omega)
  have hn : ((i : Int)).toNat = i := by simp
  simp only [rd_T45, hn] at m0 m1 m2
  exact ⟨ad, e, m0, m1, m2⟩
theorem flat (h : NH w x p) (i : Nat) (hi : i < x.f5.length) : ∃ ad, p.a5 = some ad ∧ w.cell? (ad.add i) = some (.bool (x.f5.getD i false)) := by
  obtain ⟨ad, e, hc⟩ := Kd.at_bool h.h5 (i : Int) (by omega) (by omega)
  exact ⟨ad, e, by simpa [rdOf] using hc⟩
end NH
/-! ### Trees as isTree lets them in -/
def bytN (x : S28) : Nat := x.f1.size + x.f6.size + x.f7.size + x.f8.size + (x.f3.map ByteArray.size).sum + (x.f9.map fun a => a.f0.size + a.f1.size).sum
def cntL : Nat → S28 → Nat
  | 0, _ => 0
  | l + 1, x => 1 + (x.f4.map (cntL l)).sum
def bytL : Nat → S28 → Nat
  | 0, _ => 0
  | l + 1, x => bytN x + (x.f4.map (bytL l)).sum
/-- What the row's reading tells of a node and of all below it. -/
def Sz : Nat → S28 → Prop
  | 0, _ => True
  | l + 1, x => (x.f1.size ≤ 140737488355328 ∧ x.f6.size ≤ 140737488355328 ∧ x.f7.size ≤ 140737488355328 ∧ x.f8.size ≤ 140737488355328 ∧ (-9223372036854775808 ≤ x.f2 ∧ x.f2 ≤ 9223372036854775807) ∧ (∀ s ∈ x.f3, s.size ≤ 140737488355328) ∧ ∀ a ∈ x.f9, a.f0.size ≤ 140737488355328 ∧ a.f1.size ≤ 140737488355328) ∧ ∀ y ∈ x.f4, Sz l y
def Scal (k : Int) : Prop := (0 ≤ k ∧ k ≤ 6) ∨ k = 10 ∨ k = 11
def PartP (x : S28) (flat : Bool) : Prop :=
  (Scal x.f0 ∧ x.f3 = [] ∧ x.f4 = [] ∧ x.f5 = [] ∧ flat = false) ∨ (x.f0 = 8 ∧ x.f3 = [] ∧ x.f5 = []) ∨ (x.f0 = 9 ∧ x.f3.length = x.f4.length ∧ x.f5 = []) ∨ (x.f0 = 7 ∧ x.f3.length = x.f4.length ∧ x.f5.length = x.f4.length ∧ flat = false)
/-- At most l levels, each node as told by its kind and by 'is'. -/
def Tree (is : S28 → Bool → Prop) : Nat → S28 → Bool → Prop
  | 0, _, _ => False
  | l + 1, x, flat => (x.f4.length ≤ 200 ∧ x.f3.length ≤ 200 ∧ x.f5.length ≤ 200 ∧ x.f9.length ≤ 20) ∧ PartP x flat ∧ is x flat ∧ ∀ i, i < x.f4.length → Tree is l (x.f4.getD i z28) (x.f0 == 7 && x.f5.getD i false)
end H
end Go.Proofs.YtkihaebaccdjdaaGreatDoor
