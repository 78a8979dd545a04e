import Derived.Test.YtclmjmfcggkpaaaGreatDoorHErr
import Derived.Test.YtclmjmfcggkpaaaGreatDoorPXx180
import Derived.Test.YtclmjmfcggkpaaaGreatDoorPXx193
import Derived.Lib.IndexLaws
set_option linter.unusedVariables false
set_option linter.unusedSimpArgs false
namespace Go.Proofs.YtclmjmfcggkpaaaGreatDoor
open Go.RowKit Go.Proofs.YtclmjmfcggkpaaaGreatDoorW.PrintWords Go.Proofs.YtclmjmfcggkpaaaGreatDoorW.PrintLast Go.Proofs.YtclmjmfcggkpaaaGreatDoorW.PrintMore
open PX
namespace H
theorem bt_iff (s : ByteArray) (k : Nat) (b : UInt8) (h : k < s.size) : bt s k = (b.toNat : Int) ↔ s.data.toList[k]? = some b := by
  have hb : bt s k = ((s[k]'h).toNat : Int) := by simp [bt, h]
  have e : s.data.toList[k]? = some (s[k]'h) := by
    have : k < s.data.toList.length := by simpa using h
    rw [List.getElem?_eq_getElem this]
    rfl
  rw [hb, e]
  constructor
  · intro h
    congr 1
    exact UInt8.toNat.inj (by omega)
  · intro h
    rw [Option.some.inj h]
theorem idx_eq {s : ByteArray} {b : UInt8} {i : Nat} (h : Fst s (b.toNat : Int) i) : Lib.indexByte s.data.toList b = if i < s.size then (i : Int) else -1 := by
  have hge := Lib.indexByte_ge s.data.toList b
  have hle := h.le
  by_cases hm : Lib.indexByte s.data.toList b = -1
  · rw [hm]
    by_cases hi : i < s.size
    · exact absurd ((bt_iff s i b hi).1 (h.at_ hi)) (Lib.indexByte_none hm i)
    · rw [if_neg hi]
  · obtain ⟨o, ho⟩ := Int.eq_ofNat_of_zero_le (show 0 ≤ Lib.indexByte s.data.toList b by omega)
    obtain ⟨h1, h2⟩ := Lib.indexByte_some ho
    have hos : o < s.size := by
      have := (List.getElem?_eq_some_iff.1 h1).1
      simpa using this
    have hbo := (bt_iff s o b hos).2 h1
    have hio : i = o := by
      rcases Nat.lt_trichotomy i o with hlt | heq | hgt
      · exact absurd ((bt_iff s i b (by omega)).1 (h.at_ (by omega))) (h2 i hlt)
      · exact heq
      · exact absurd hbo (h.no o hgt)
    subst hio
    rw [ho, if_pos hos]
theorem split_eq {s : ByteArray} {i : Nat} (hs : s.size ≤ 2147483647) (h : Fst s 63 i) : impl_SplitURI.f s = some ((cutR s i).1, (cutR s i).2.1) := by
  have e := idx_eq (b := 63) h
  have hle := h.le
  unfold impl_SplitURI.f smhttp_SplitURI.f strings_IndexByte.f
  rw [Option.bind_some, show (63 : Int).toNat.toUInt8 = 63 from rfl, e]
  unfold cutR
  by_cases hi : i < s.size
  · rw [if_pos hi, if_pos hi, if_neg (by omega), if_pos (by omega), if_pos (by omega), wr1 i (by omega), Int.toNat_natCast]
    by_cases h2 : i + 1 ≥ s.size
    · rw [if_pos (by omega)]
      have : s.extract (i + 1) s.size = ⟨#[]⟩ := by
        apply ByteArray.ext
        simp
        omega
      rw [this]
      rfl
    · rw [if_neg (by omega), if_pos (by omega), if_pos (by omega)]
      rfl
  · rw [if_neg hi, if_neg hi, if_pos rfl]
    rfl
theorem has_eq {s : ByteArray} {c : Int} {i : Nat} (h : Fst s c i) (hs : s.size ≤ 2147483647) : ∀ n k, k + n = i → ∀ F, n + 1 ≤ F → spec_HasByte.l0 F s c (s.size : Int) (k : Int) = some (decide (i < s.size)) := by
  have hle := h.le
  intro n
  induction n with
  | zero =>
    intro k hk F hF
    obtain rfl : k = i := by omega
    match F, hF with
    | F + 1, _ =>
      rw [spec_HasByte.l0]
      by_cases hlt : k < s.size
      · rw [if_pos (by omega), if_pos (by omega), if_pos (by omega), if_pos (h.at_ hlt), decide_eq_true hlt]
      · rw [if_neg (by omega), decide_eq_false hlt]
  | succ n ih =>
    intro k hk F hF
    match F, hF with
    | F + 1, hF =>
      rw [spec_HasByte.l0, if_pos (by omega), if_pos (by omega), if_pos (by omega), if_neg (h.no k (by omega)), wr1 k (by omega)]
      exact ih (k + 1) (by omega) F (by omega)
theorem hasByte_call (s : ByteArray) (i : Nat) (w : World) (h : Fst s 63 i) (hs : s.size ≤ 2147483647) :
    Calls Tryz.prog 32 #[.string s, .int .u8 63] w fun e w' => e = .returned (.bool (decide (i < s.size))) ∧ Drawn0 w w' :=
  spec_HasByte.calls (s.size + 1) s 63 _ w (by have := has_eq h hs i 0 (by omega) (s.size + 1) (by have := h.le; omega); exact this)
theorem dl (p q : ByteArray) : (p ++ ⟨#[63]⟩ ++ q).data.toList = p.data.toList ++ 63 :: q.data.toList := by simp
theorem size_dl (s : ByteArray) : s.size = s.data.toList.length := by simp
theorem ext_dl (s : ByteArray) (a b : Nat) : (s.extract a b).data.toList = (s.data.toList.drop a).take (b - a) := by
  simp [List.extract_eq_take_drop]
theorem join_size (p q : ByteArray) : (p ++ ⟨#[63]⟩ ++ q).size = p.size + 1 + q.size := by
  rw [size_dl, dl, size_dl p, size_dl q]
  simp
  omega
theorem join_at (p q : ByteArray) (k : Nat) (h : k < p.size) : bt (p ++ ⟨#[63]⟩ ++ q) k = bt p k := by
  have hb : bt p k = ((p[k]'h).toNat : Int) := by simp [bt, h]
  rw [hb, bt_iff _ _ _ (by rw [join_size]; omega), dl, List.getElem?_append_left (by rw [← size_dl]; exact h)]
  exact (bt_iff p k _ h).1 hb
theorem join_mid (p q : ByteArray) : bt (p ++ ⟨#[63]⟩ ++ q) p.size = 63 := by
  refine (bt_iff _ p.size 63 (by rw [join_size]; omega)).2 ?_
  rw [dl, size_dl p, List.getElem?_append_right (Nat.le_refl _)]
  simp
theorem of_dl {a b : ByteArray} (h : a.data.toList = b.data.toList) : a = b := by
  apply ByteArray.ext
  exact Array.ext' h
theorem join_cut1 (p q : ByteArray) : (p ++ ⟨#[63]⟩ ++ q).extract 0 p.size = p := by
  apply of_dl
  rw [ext_dl, dl, size_dl p]
  simp
theorem join_cut2 (p q : ByteArray) : (p ++ ⟨#[63]⟩ ++ q).extract (p.size + 1) (p ++ ⟨#[63]⟩ ++ q).size = q := by
  apply of_dl
  rw [ext_dl, join_size, dl, size_dl p, size_dl q]
  have : List.drop (p.data.toList.length + 1) (p.data.toList ++ 63 :: q.data.toList) = q.data.toList := by
    rw [← List.drop_drop, List.drop_left]
    rfl
  rw [this, List.take_of_length_le (by omega)]
theorem join_fst {p : ByteArray} (q : ByteArray) (h : Fst p 63 p.size) : Fst (p ++ ⟨#[63]⟩ ++ q) 63 p.size :=
  ⟨by rw [join_size]; omega, fun j hj => by rw [join_at p q j hj]; exact h.no j hj, fun _ => join_mid p q⟩
set_option maxHeartbeats 400000 in
set_option maxRecDepth 100000 in
theorem fnSplitURI (p q : ByteArray) (w : World) (hT : Tab w) :
    Calls Tryz.prog 9 #[.string p, .string q] w fun e w' => e = .returned (.bool true) ∧ Below w.heap.size w w' := by
  obtain ⟨i, hp⟩ := fst_ex p 63
  replace hT := Aside0.mk hT
  have hpl := hp.le
  replace hp := Aside0.mk hp
  have works : Aside0 (∀ w0, Below w.heap.size w w0 → Calls Tryz.prog 17 #[] w0 fun e w' => e = .returned (.bool true) ∧ Below w.heap.size w w') :=
    .mk (fun w0 hb => (works_call w0 (hT.out.below hb hT.out.lt)).mono fun e w' ⟨he, h⟩ => ⟨he, below_then hb hb.size h⟩)
  have splits : Aside0 (i = p.size → p.size ≤ 2147483647 → q.size ≤ 2147483647 → p.size + q.size ≤ 5000 → (∀ w0, Calls Tryz.prog 33 #[.string (p ++ ⟨#[63]⟩ ++ q)] w0 fun e w' => e = .returned (.tuple #[.string p, .string q]) ∧ Drawn0 w0 w') ∧
      (∀ w0, Calls Tryz.prog 33 #[.string p] w0 fun e w' => e = .returned (.tuple #[.string p, .string ⟨#[]⟩]) ∧ Drawn0 w0 w')) := .mk (by
    rintro rfl h1 h2 h3
    have hj := join_fst q hp.out
    have hz := join_size p q
    refine ⟨fun w0 => impl_SplitURI.calls _ p q w0 ?_, fun w0 => impl_SplitURI.calls _ p ⟨#[]⟩ w0 ?_⟩
    · rw [split_eq (by omega) hj, cutR, if_pos (by omega), join_cut1, join_cut2]
    · rw [split_eq (by omega) hp.out, cutR, if_neg (by omega)])
  by_cases c1 : (p.size : Int) > 2147483647
  · go_enter Tryz.func9, Tryz.ntmps9
    go_wp2_with fail
    go_ret
    exact ⟨rfl, Below.refl _ _⟩
  · by_cases c2 : (q.size : Int) > 2147483647
    · go_enter Tryz.func9, Tryz.ntmps9
      go_wp2_with fail
      go_ret
      exact ⟨rfl, Below.refl _ _⟩
    · have hw : IntKind.i64.wrap ((p.size : Int) + (q.size : Int)) = (p.size : Int) + (q.size : Int) := IntWalk.i64_in _ (by omega)
      go_enter Tryz.func9, Tryz.ntmps9
      go_wp2_with fail
      · refine (hasByte_call p i w hp.out (by omega)).mono ?_
        rintro e w1 ⟨rfl, hd⟩
        have hb1 := Aside0.mk (drawn_below hd)
        clear hd
        by_cases hi : i < p.size
        · rw [decide_eq_true hi]
          go_wp2_with fail
          refine (works.out w1 hb1.out).mono ?_
          rintro e w2 ⟨rfl, hb2⟩
          go_wp2
          go_ret
          exact ⟨rfl, hb2⟩
        · rw [decide_eq_false hi]
          obtain ⟨s1, s2⟩ := splits.out (by omega) (by omega) (by omega) (by omega)
          replace s1 := Aside0.mk s1; replace s2 := Aside0.mk s2
          go_wp2_with fail
          refine (s1.out w1).mono ?_
          rintro e w2 ⟨rfl, hd2⟩
          have hb2 := Aside0.mk (below_then hb1.out hb1.out.size (drawn_below hd2))
          clear hd2
          go_wp2_with fail
          refine (s2.out w2).mono ?_
          rintro e w3 ⟨rfl, hd3⟩
          have hb3 := Aside0.mk (below_then hb2.out hb2.out.size (drawn_below hd3))
          clear hd3
          go_wp2_with fail
          refine (works.out w3 hb3.out).mono ?_
          rintro e w4 ⟨rfl, hb4⟩
          go_wp2
          go_ret
          exact ⟨by simp, hb4⟩
      · refine (works.out w (Below.refl _ _)).mono ?_
        rintro e w2 ⟨rfl, hb2⟩
        go_wp2
        go_ret
        exact ⟨rfl, hb2⟩
end H
end Go.Proofs.YtclmjmfcggkpaaaGreatDoor
