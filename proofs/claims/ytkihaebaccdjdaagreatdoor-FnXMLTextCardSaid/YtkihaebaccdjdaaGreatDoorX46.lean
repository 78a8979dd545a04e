import Derived.Test.YtkihaebaccdjdaaGreatDoorX40
import Derived.Test.YtkihaebaccdjdaaGreatDoorX45
import Derived.Test.YtkihaebaccdjdaaGreatDoorX32
import Derived.Test.YtkihaebaccdjdaaGreatDoorX14
import Derived.Test.YtkihaebaccdjdaaGreatDoorX19
import Derived.Deep.RegionHeld3
import Derived.BigRegion
set_option linter.unusedVariables false
set_option linter.unusedSimpArgs false
namespace Go.Proofs.YtkihaebaccdjdaaGreatDoor
open Go.RowKit Go.Proofs.YtkihaebaccdjdaaGreatDoorW.PrintWords Go.Proofs.YtkihaebaccdjdaaGreatDoorW.PrintLast Go.Proofs.YtkihaebaccdjdaaGreatDoorW.PrintMore
open PX
namespace H
/-! ### What spec.reader reads of an element with one attribute and a text (plain) -/
theorem sp0 {s : ByteArray} {c : Int} {l : List Int} (h : bytesOf s = c :: l) (hc : c ≠ 32 ∧ c ≠ 9 ∧ c ≠ 10 ∧ c ≠ 13) (k : Nat) : spec_reader_space.f (k + 1) s false = some (s, false) := by
 have hd := hd_of h
 unfold spec_reader_space.f
 rw [spec_reader_space.l0, if_neg hd.ne, if_pos (by have := hd.sz; omega), hd.bt, if_neg hc.1, if_neg hc.2.1, if_neg hc.2.2.1, if_neg hc.2.2.2]
theorem sp1 {s : ByteArray} {c : Int} {l : List Int} (h : bytesOf s = 32 :: c :: l) (hc : c ≠ 32 ∧ c ≠ 9 ∧ c ≠ 10 ∧ c ≠ 13) (k : Nat) : ∃ s', spec_reader_space.f (k + 2) s false = some (s', false) ∧ bytesOf s' = c :: l := by
 have hd := hd_of h
 refine ⟨s.extract 1 s.size, ?_, hd.tl⟩
 have h2 := sp0 hd.tl hc k
 unfold spec_reader_space.f at h2 ⊢
 rw [spec_reader_space.l0, if_neg hd.ne, if_pos (by have := hd.sz; omega), hd.bt, if_pos rfl, if_pos (by have := hd.sz; omega)]
 exact h2
theorem want_f {s t : ByteArray} {a l : List Int} (h : bytesOf s = a ++ l) (ht : bytesOf t = a) : ∃ s', spec_reader_want.f s false t = some (s', false) ∧ bytesOf s' = l := by
 obtain ⟨s', h1, h2⟩ := take_yes h false ht
 refine ⟨s', ?_, h2⟩
 unfold spec_reader_want.f
 rw [h1]
 rfl
theorem bytes_app (a b : ByteArray) : bytesOf (a ++ b) = bytesOf a ++ bytesOf b := by simp [bytesOf, ByteArray.data_append]
theorem size_of {s : ByteArray} {l : List Int} (h : bytesOf s = l) : s.size = l.length := by rw [← h, bytesOf_length]
theorem start_end {s : ByteArray} {l : List Int} (h : bytesOf s = 62 :: l) (k : Nat) : ∃ s', spec_reader_start.l0 (k + 2) [] s = some (false, s', false) ∧ bytesOf s' = l := by
 obtain ⟨s', h1, h2⟩ := take_yes (s := s) (t := ⟨#[62]⟩) (a := [62]) (l := l) h false (by decide)
 refine ⟨s', ?_, h2⟩
 rw [spec_reader_start.l0, sp0 h (by decide) k]
 simp only [Option.bind_some, Bool.false_eq_true, if_false]
 rw [take_no h false ⟨#[47, 62]⟩ 47 [62] (by decide) (by decide)]
 simp only [Option.bind_some, Bool.false_eq_true, if_false]
 rw [h1]
 simp
theorem start_one {s v : ByteArray} {X l : List Int} (hX : XRead X (bytesOf v)) (h : bytesOf s = 32 :: 97 :: 61 :: 34 :: (X ++ 34 :: 62 :: l)) (hs : s.size ≤ 2147483647) (hv : v.size < 140737488355328) (k : Nat) :
 ∃ s', spec_reader_start.l0 (3 * X.length + k + 40) [⟨⟨#[97]⟩, v, false⟩] s = some (false, s', false) ∧ bytesOf s' = l := by
 obtain ⟨p, p1, p2⟩ := sp1 h (by decide) (3 * X.length + k + 37)
 have hps : p.size + 1 = s.size := by rw [size_of p2, size_of h]; simp
 obtain ⟨c1, c2, c3⟩ := cut_f (a := [97]) (c := 61) (s := p) p2 (by decide) (by omega) (3 * X.length + k + 39) (by simp)
 obtain ⟨v1, e1, e2⟩ := want_f (t := ⟨#[34]⟩) (a := [34]) c3 (by decide)
 have hv1 : v1.size ≤ 2147483647 := by have a := size_of e2; have b := size_of p2; simp at a b; omega
 obtain ⟨d2, f1, f2⟩ := data_l0 hX true 34 (.inl rfl) v1 (62 :: l) [] (3 * X.length + k + 39) e2 hv1 (by simp [bytesOf_length]; omega) (by omega)
 obtain ⟨x1, g1, g2⟩ := want_f (t := ⟨#[34]⟩) (a := [34]) (l := 62 :: l) f2 (by decide)
 obtain ⟨s', i1, i2⟩ := start_end g2 (3 * X.length + k + 37)
 refine ⟨s', ?_, i2⟩
 have ev : strOfNums ([] ++ bytesOf v) = v := by rw [List.nil_append, nums_bytes]
 rw [ev] at f1
 have hn : p.extract 0 [(97 : Int)].length = attName ⟨⟨#[97]⟩, v, false⟩ := bytes_inj (by rw [c2]; rfl)
 rw [spec_reader_start.l0, p1]
 simp only [Option.bind_some, Bool.false_eq_true, if_false]
 rw [take_no p2 false ⟨#[47, 62]⟩ 47 [62] (by decide) (by decide)]
 simp only [Option.bind_some, Bool.false_eq_true, if_false]
 rw [take_no p2 false ⟨#[62]⟩ 62 [] (by decide) (by decide)]
 simp only [Option.bind_some, Bool.false_eq_true, if_false]
 rw [c1]
 simp only [Option.bind_some, Bool.true_eq_false, if_false]
 rw [if_neg (by omega), e1]
 simp only [Option.bind_some, Bool.false_eq_true, if_false]
 rw [show spec_reader_data.f (3 * X.length + k + 39) v1 false 34 true = some (v, d2, false) from f1]
 simp only [Option.bind_some, Bool.false_eq_true, if_false]
 rw [g1]
 simp only [Option.bind_some, Bool.false_eq_true, if_false]
 rw [if_pos (by decide), if_pos hn, if_pos trivial]
 exact i1
theorem elem_f {o name v : ByteArray} {X : List Int} (hX : XRead X (bytesOf v)) (num : Int) (item kn vn : ByteArray) (h : bytesOf o = 60 :: (bytesOf name ++ 32 :: 97 :: 61 :: 34 :: (X ++ 34 :: 62 :: (X ++ 60 :: 47 :: (bytesOf name ++ [62]))))) (ho : o.size ≤ 2147483647) (hv : v.size < 140737488355328) :
 ∃ rs', spec_reader_element.f (3 * X.length + 100) o false name [⟨⟨#[97]⟩, v, false⟩] 0 v num [] [] [] item kn vn [⟨⟨#[97]⟩, v, false⟩] = some (rs', false) ∧ bytesOf rs' = [] := by
 have hsz := size_of h
 simp at hsz
 have hns : name.size + 8 ≤ o.size := by rw [hsz]; simp only [bytesOf_length]; omega
 obtain ⟨p, p1, p2⟩ := want_f (s := o) (t := (⟨#[60]⟩ : ByteArray) ++ name) (a := 60 :: bytesOf name) h (by rw [bytes_app]; rfl)
 have hp : p.size ≤ 2147483647 := by have a := size_of p2; simp at a; omega
 obtain ⟨q, q1, q2⟩ := start_one hX p2 hp hv 60
 have hq : q.size ≤ 2147483647 := by have a := size_of q2; simp at a; omega
 obtain ⟨r, r1, r2⟩ := data_l0 hX false 60 (.inr rfl) q (47 :: (bytesOf name ++ [62])) [] (3 * X.length + 100) q2 hq (by simp [bytesOf_length]; omega) (by omega)
 have ev : strOfNums ([] ++ bytesOf v) = v := by rw [List.nil_append, nums_bytes]
 rw [ev] at r1
 obtain ⟨rs', w1, w2⟩ := want_f (s := r) (t := ((⟨#[60, 47]⟩ : ByteArray) ++ name) ++ (⟨#[62]⟩ : ByteArray)) (a := 60 :: 47 :: (bytesOf name ++ [62])) (l := []) (by rw [r2]; simp) (by rw [bytes_app, bytes_app]; rfl)
 refine ⟨rs', ?_, w2⟩
 have hst : spec_reader_start.f (3 * X.length + 100) o false name [⟨⟨#[97]⟩, v, false⟩] = some (false, q, false) := by
  unfold spec_reader_start.f
  rw [if_pos (by omega), if_pos (by simp), p1]
  simp only [Option.bind_some, Bool.false_eq_true, if_false]
  exact q1
 have hct : spec_reader_content.f (3 * X.length + 100) q false 0 v num [] [] [] item kn vn [⟨⟨#[97]⟩, v, false⟩] = some (r, false) := by
  unfold spec_reader_content.f
  rw [if_neg (by decide), if_pos rfl, show spec_reader_data.f (3 * X.length + 100) q false 60 false = some (v, r, false) from r1]
  simp
 unfold spec_reader_element.f
 rw [if_neg (by decide), hst]
 simp only [Option.bind_some, Bool.false_eq_true, if_false]
 rw [hct]
 simp only [Option.bind_some]
 rw [if_pos (by omega), if_pos (by rw [ByteArray.size_append]; show 2 + name.size + 1 ≤ _; omega), w1]
 rfl
end H
end Go.Proofs.YtkihaebaccdjdaaGreatDoor
set_option linter.unusedVariables false
set_option linter.unusedSimpArgs false
namespace Go.Proofs.YtkihaebaccdjdaaGreatDoor
open Go.RowKit Go.Proofs.YtkihaebaccdjdaaGreatDoorW.PrintWords Go.Proofs.YtkihaebaccdjdaaGreatDoorW.PrintLast Go.Proofs.YtkihaebaccdjdaaGreatDoorW.PrintMore
open PX
namespace H
/-! ### SaysXML of a text with attributes -/
theorem foot45 {w W : World} {g : Nat} {A : Option Addr} {l : List S45} (h : Kd.C k45 w A l.length l) (hb : Below w.heap.size w W) (hg : w.heap.size ≤ g) : ∀ W', KeepBut W W' g none → Kd.C k45 W' A l.length l :=
 Kd.C_foot_ne (fun h => by obtain rfl := k45_open h; exact k45_mk _ _) (Kd.C_below h hb) (fun ad e hn => by subst e; have := Kd.C_lt h hn (by decide); omega)
set_option maxHeartbeats 8000000 in
set_option maxRecDepth 100000 in
theorem saysX {k : Nat} {o name s rs' : ByteArray} (num : Int) (item kn vn : ByteArray) (A9 : Option Addr) (c9 : Nat) (l9 : List S45) (w : World)
 (hu : U8 charB (bytesOf o)) (ho : o.size ≤ 2147483647) (hr9 : Kd.C k45 w A9 l9.length l9) (hc9 : l9.length ≤ c9) (hf : spec_reader_element.f k o false name l9 0 s num [] [] [] item kn vn l9 = some (rs', false)) (he : bytesOf rs' = []) :
 Calls Tryz.prog 17 #[.string o, .string name, ND 0 s num (.slice none 0 0) (.slice none 0 0) (.slice none 0 0) item kn vn (.slice A9 l9.length c9)] w fun e w' => e = .returned (.bool true) ∧ Below w.heap.size w w' := by
 have hr := hu.runes (o.size + 1) (by rw [bytesOf_length]; omega)
 obtain rfl : rs' = ⟨#[]⟩ := bytes_inj (he.trans (by decide))
 have hcall := areC o
 replace hf := Aside0.mk hf; replace hcall := Aside0.mk hcall; replace hr := Aside0.mk hr; replace hr9 := Aside0.mk hr9; replace hc9 := Aside0.mk hc9
 have hb := below_alloc (Below.refl w.heap.size w) (.cells #[.int .i64 0, .string s, .int .i64 num, .slice none 0 0, .slice none 0 0, .slice none 0 0, .string item, .string kn, .string vn, .slice A9 l9.length c9] 28)
 have hk1 := heap_new w (.cells #[.int .i64 0, .string s, .int .i64 num, .slice none 0 0, .slice none 0 0, .slice none 0 0, .string item, .string kn, .string vn, .slice A9 l9.length c9] 28)
 replace hb := Aside0.mk hb; replace hk1 := Aside0.mk hk1
 clear hu he
 unfold ND
 go_enter Tryz.func17, Tryz.ntmps17
 go_wp2_with fail
 generalize w.alloc (.cells #[.int .i64 0, .string s, .int .i64 num, .slice none 0 0, .slice none 0 0, .slice none 0 0, .string item, .string kn, .string vn, .slice A9 l9.length c9] 28) = w1 at *
 obtain ⟨nb, hnb⟩ : ∃ nb, w.heap.size = nb := ⟨_, rfl⟩
 rw [hnb] at hk1 ⊢
 have hc2 := hcall.out w1 ho
 rw [hr.out] at hc2
 refine hc2.mono ?_
 rintro e w2 ⟨rfl, hb2⟩
 have hk2 := Aside0.mk (heap_below hb2 hk1.out)
 have hB2 := below_then hb.out hb.out.size hb2
 clear hb2 hc2 hk1
 have hIn := IsS80.new w w2 o false hB2
 have hB3 := Aside0.mk (below_alloc hB2 (.cells #[.string o, .bool false] 80))
 have hk3 := heap_old hk2.out (.cells #[.string o, .bool false] 80)
 have q0 := cell_at hk3 0
 have q1 := cell_at hk3 1
 have q2 := cell_at hk3 2
 have q3 := cell_at hk3 3
 have q4 := cell_at hk3 4
 have q5 := cell_at hk3 5
 have q6 := cell_at hk3 6
 have q7 := cell_at hk3 7
 have q8 := cell_at hk3 8
 have q9 := cell_at hk3 9
 simp at q0 q1 q2 q3 q4 q5 q6 q7 q8 q9
 have hgz : Aside0 (w.heap.size ≤ w2.heap.size) := .mk hB2.size
 replace hk3 := Aside0.mk hk3
 replace hIn := Aside0.mk hIn
 clear hk2 hB2
 go_wp2_with fail
 generalize w2.alloc (.cells #[.string o, .bool false] 80) = w3 at *
 obtain ⟨g, hg⟩ : ∃ g, w2.heap.size = g := ⟨_, rfl⟩
 rw [hg] at hIn hgz ⊢
 have hft := foot45 (g := g) hr9.out hB3.out hgz.out
 have hv := spec_reader_element.calls k g o false name A9 c9 l9 0 s num none 0 [] none 0 [] none 0 [] item kn vn A9 c9 l9 ⟨#[]⟩ false w w3 hIn.out hB3.out hft hc9.out (Kd.C_nil _ _) (Nat.le_refl _) (fun _ e => nomatch e) (fun _ _ => Kd.C_nil _ _) (Nat.le_refl _) (Kd.C_nil _ _) (Nat.le_refl _) (fun _ e => nomatch e) hft hc9.out hf.out
 simp only [List.length_nil] at hv
 refine hv.mono ?_
 rintro e w4 ⟨rfl, hI4, hB4, _⟩
 clear hv hft
 have d0 := cellS80_0 hI4.1; have d1 := cellS80_1 hI4.1
 replace hI4 := Aside0.mk hI4; replace hB4 := Aside0.mk hB4
 clear q0 q1 q2 q3 q4 q5 q6 q7 q8 q9
 go_wp2
 go_ret
 exact ⟨rfl, by rw [← hnb] at *; exact hB4.out⟩
end H
end Go.Proofs.YtkihaebaccdjdaaGreatDoor
set_option linter.unusedVariables false
set_option linter.unusedSimpArgs false
namespace Go.Proofs.YtkihaebaccdjdaaGreatDoor
open Go.RowKit Go.Proofs.YtkihaebaccdjdaaGreatDoorW.PrintWords Go.Proofs.YtkihaebaccdjdaaGreatDoorW.PrintLast Go.Proofs.YtkihaebaccdjdaaGreatDoorW.PrintMore
open PX
namespace H
/-! ### counter.take of a text with one attribute -/
theorem w64 (x : Int) (h0 : 0 ≤ x) (h1 : x < 9223372036854775808) : IntKind.i64.wrap x = x := by
 simp [IntKind.wrap, IntKind.bits, IntKind.signed]
 omega
set_option maxHeartbeats 8000000 in
set_option maxRecDepth 100000 in
theorem take1x {g q c4 : Nat} {z : Nat × Nat} (s v : ByteArray) (num : Int) (sp : Bool) (w : World) (hg : w.heap[g]? = some (.cells #[.int .i64 0, .int .i64 0] 50 (0, 0))) (hq : w.heap[q]? = some (.cells #[.string ⟨#[97]⟩, .string v, .bool sp] 45 z)) (hne : q ≠ g)
 (h1 : s.size ≤ 5000) (h3 : v.size ≤ 5000) (hc4 : 1 ≤ c4) :
 Calls Tryz.prog 54 #[.pointer (some ⟨g, 0, none⟩), ND 0 s num (.slice none 0 0) (.slice none 0 0) (.slice none 0 0) ⟨#[]⟩ ⟨#[]⟩ ⟨#[]⟩ (.slice (some ⟨q, 0, none⟩) 1 c4)] w fun e w' => e = .returned (.bool true) ∧ Fr (fun k => k = g) w w' := by
 have e1 : IntKind.i64.wrap (s.size : Int) = s.size := w64 _ (by omega) (by omega)
 have e2 : IntKind.i64.wrap (1 + (v.size : Int)) = 1 + v.size := w64 _ (by omega) (by omega)
 have e3 : IntKind.i64.wrap ((s.size : Int) + (1 + v.size)) = s.size + (1 + v.size) := w64 _ (by omega) (by omega)
 have e4 : ((s.size : Int) + (1 + v.size) ≤ 20000) = True := eq_true (by omega)
 have hlt := lt_of hg
 have hlt2 := lt_of hq
 unfold ND
 have c0 := cell_at hg 0
 have c1 := cell_at hg 1
 simp at c0 c1
 have f0 := free_of hg 0; have f1 := free_of hg 1
 have x0 := cell_at hq 0
 have x1 := cell_at hq 1
 have x2 := cell_at hq 2
 simp at x0 x1 x2
 have ng : w.heap.size ≠ g := by omega
 have gn : g ≠ w.heap.size := by omega
 have nq : q ≠ w.heap.size := by omega
 go_enter Tryz.func54, Tryz.ntmps54
 go_wp2_with fail
 have kg1 : (w.setCell ⟨g, 0, none⟩ (.int .i64 1)).heap[g]? = some (.cells #[.int .i64 1, .int .i64 0] 50 (0, 0)) := by rw [heap_set hg]; rfl
 have kq1 := (Below.heap_setCell w ⟨g, 0, none⟩ (.int .i64 1) q hne).trans hq
 have kg2 := heap_old kg1 (.cells #[.int .i64 0, .string s, .int .i64 num, .slice none 0 0, .slice none 0 0, .slice none 0 0, .string ⟨#[]⟩, .string ⟨#[]⟩, .string ⟨#[]⟩, .slice (some ⟨q, 0, none⟩) 1 c4] 28)
 have kq2 := heap_old kq1 (.cells #[.int .i64 0, .string s, .int .i64 num, .slice none 0 0, .slice none 0 0, .slice none 0 0, .string ⟨#[]⟩, .string ⟨#[]⟩, .string ⟨#[]⟩, .slice (some ⟨q, 0, none⟩) 1 c4] 28)
 have kn2 := heap_new (w.setCell ⟨g, 0, none⟩ (.int .i64 1)) (.cells #[.int .i64 0, .string s, .int .i64 num, .slice none 0 0, .slice none 0 0, .slice none 0 0, .string ⟨#[]⟩, .string ⟨#[]⟩, .string ⟨#[]⟩, .slice (some ⟨q, 0, none⟩) 1 c4] 28)
 have hz : (w.setCell ⟨g, 0, none⟩ (.int .i64 1)).heap.size = w.heap.size := by simp [World.setCell]
 rw [hz] at kn2
 have hF := ((Fr.refl (fun k => k = g) w).setCell (p := ⟨g, 0, none⟩) (.inl rfl) (.int .i64 1)).trans (Fr.of_below (S := fun _ => False) (below_alloc (Below.refl _ (w.setCell ⟨g, 0, none⟩ (.int .i64 1))) (.cells #[.int .i64 0, .string s, .int .i64 num, .slice none 0 0, .slice none 0 0, .slice none 0 0, .string ⟨#[]⟩, .string ⟨#[]⟩, .string ⟨#[]⟩, .slice (some ⟨q, 0, none⟩) 1 c4] 28))) (fun _ _ h => h.elim)
 generalize (w.setCell ⟨g, 0, none⟩ (.int .i64 1)).alloc (.cells #[.int .i64 0, .string s, .int .i64 num, .slice none 0 0, .slice none 0 0, .slice none 0 0, .string ⟨#[]⟩, .string ⟨#[]⟩, .string ⟨#[]⟩, .slice (some ⟨q, 0, none⟩) 1 c4] 28) = w2 at *
 clear c0 c1 x0 x1 x2 f0 f1 kg1 kq1 hz
 obtain ⟨nb, hnb⟩ : ∃ nb, w.heap.size = nb := ⟨_, rfl⟩
 rw [hnb] at kn2 ng gn nq ⊢
 have n1 := cell_at kn2 1
 have n3 := cell_at kn2 3
 have n4 := cell_at kn2 4
 have n5 := cell_at kn2 5
 have n6 := cell_at kn2 6
 have n7 := cell_at kn2 7
 have n8 := cell_at kn2 8
 have n9 := cell_at kn2 9
 simp at n1 n3 n4 n5 n6 n7 n8 n9
 have c0 := cell_at kg2 0
 have c1 := cell_at kg2 1
 simp at c0 c1
 have f1 := free_of kg2 1
 have x0 := cell_at kq2 0
 have x1 := cell_at kq2 1
 have x2 := cell_at kq2 2
 simp at x0 x1 x2
 go_region
 have kg3 : (w2.setCell ⟨g, 1, none⟩ (.int .i64 s.size)).drew.heap[g]? = some (.cells #[.int .i64 1, .int .i64 s.size] 50 (0, 0)) := by show (w2.setCell ⟨g, 1, none⟩ (.int .i64 s.size)).heap[g]? = _; rw [heap_set kg2]; rfl
 have kq3 : (w2.setCell ⟨g, 1, none⟩ (.int .i64 s.size)).drew.heap[q]? = _ := (Below.heap_setCell w2 ⟨g, 1, none⟩ (.int .i64 s.size) q hne).trans kq2
 have kn3 : (w2.setCell ⟨g, 1, none⟩ (.int .i64 s.size)).drew.heap[nb]? = _ := (Below.heap_setCell w2 ⟨g, 1, none⟩ (.int .i64 s.size) nb ng).trans kn2
 have hF3 := Aside0.mk (hF.setCell (p := ⟨g, 1, none⟩) (.inl rfl) (.int .i64 s.size)).drew
 generalize (w2.setCell ⟨g, 1, none⟩ (.int .i64 s.size)).drew = w3 at *
 clear hF kg2 kq2 kn2 n1 n3 n4 n5 n6 n7 n8 n9 c0 c1 x0 x1 x2 f1
 have n3 := cell_at kn3 3
 have n4 := cell_at kn3 4
 have n5 := cell_at kn3 5
 have n9 := cell_at kn3 9
 simp at n3 n4 n5 n9
 clear hg hq
 replace kg3 := Aside0.mk kg3; replace kq3 := Aside0.mk kq3; replace kn3 := Aside0.mk kn3
 go_wp2_with fail
 go_loopg [41] 1 (fun q' v41 w' => q' = 1 ∧ v41 = .int .i64 0 ∧ w' = w3)
 case atStart => exact ⟨rfl, rfl, rfl⟩
 case round =>
  obtain ⟨rfl, rfl, rfl⟩ := hrel
  go_wp2_with fail
  clear n3 n4 n5
  go_loopg [58] 2 (fun q' v58 w' => (q' = 2 ∧ v58 = .int .i64 0 ∧ w' = wr) ∨ (q' = 1 ∧ v58 = .int .i64 1 ∧ Aside0 (w'.heap[g]? = some (.cells #[.int .i64 1, .int .i64 (s.size + (1 + v.size))] 50 (0, 0))) ∧ Aside0 (w'.heap[nb]? = wr.heap[nb]?) ∧ Aside0 (Fr (fun k => k = g) w w')))
  case atStart => exact .inl ⟨rfl, rfl, rfl⟩
  case round =>
   rcases hrel with ⟨rfl, rfl, rfl⟩ | ⟨rfl, rfl, kg4, kn4, hF4⟩
   ·have kg := kg3.out; have kq := kq3.out
    have c0 := cell_at kg 0
    have c1 := cell_at kg 1
    simp at c0 c1
    have f1 := free_of kg 1
    have x0 := cell_at kq 0
    have x1 := cell_at kq 1
    have x2 := cell_at kq 2
    simp at x0 x1 x2
    have hlg := lt_of kg; have hlq := lt_of kq
    have hg1 : wr.heap.size ≠ g := by omega
    have hg2 : g ≠ wr.heap.size := by omega
    go_wp2_with fail
    have kg5 := heap_old kg (.cells #[.string ⟨#[97]⟩, .string v, .bool sp] 45)
    have kn5 := heap_old kn3.out (.cells #[.string ⟨#[97]⟩, .string v, .bool sp] 45)
    have ka5 := heap_new wr (.cells #[.string ⟨#[97]⟩, .string v, .bool sp] 45)
    have hF5 := Aside0.mk (hF3.out.alloc (.cells #[.string ⟨#[97]⟩, .string v, .bool sp] 45))
    rw [kn3.out.symm] at kn5
    obtain ⟨na, hna⟩ : ∃ na, wr.heap.size = na := ⟨_, rfl⟩
    rw [hna] at ka5 hg1 hg2 ⊢
    generalize wr.alloc (.cells #[.string ⟨#[97]⟩, .string v, .bool sp] 45) = w5 at *
    clear c0 c1 x0 x1 x2 f1
    have c0 := cell_at kg5 0
    have c1 := cell_at kg5 1
    simp at c0 c1
    have f1 := free_of kg5 1
    have x0 := cell_at ka5 0
    have x1 := cell_at ka5 1
    simp at x0 x1
    go_region
    have kg6 : (w5.setCell ⟨g, 1, none⟩ (.int .i64 (s.size + (1 + v.size)))).drew.heap[g]? = some (.cells #[.int .i64 1, (.int .i64 (s.size + (1 + v.size)))] 50 (0, 0)) := by show (w5.setCell ⟨g, 1, none⟩ (.int .i64 (s.size + (1 + v.size)))).heap[g]? = _; rw [heap_set kg5]; rfl
    have kn6 : (w5.setCell ⟨g, 1, none⟩ (.int .i64 (s.size + (1 + v.size)))).drew.heap[nb]? = wr.heap[nb]? := ((Below.heap_setCell w5 ⟨g, 1, none⟩ (.int .i64 (s.size + (1 + v.size))) nb ng).trans kn5)
    have hF6 := Aside0.mk (hF5.out.setCell (p := ⟨g, 1, none⟩) (.inl rfl) (.int .i64 (s.size + (1 + v.size)))).drew
    generalize (w5.setCell ⟨g, 1, none⟩ (.int .i64 (s.size + (1 + v.size)))).drew = w6 at *
    clear c0 c1 f1 x0 x1 kg5 kn5 ka5 hF5
    replace kg6 := Aside0.mk kg6; replace kn6 := Aside0.mk kn6
    go_wp2_with fail
    go_roundg 1
    case rel => exact .inr ⟨rfl, rfl, kg6, kn6, hF6⟩
    case measure => omega
   ·have kg := kg4.out; have kn9 := kn4.out.trans kn3.out
    have c0 := cell_at kg 0
    have c1 := cell_at kg 1
    simp at c0 c1
    have n3 := cell_at kn9 3
    have n4 := cell_at kn9 4
    have n5 := cell_at kn9 5
    have n9 := cell_at kn9 9
    simp at n3 n4 n5 n9
    clear kg kn9
    go_wp2
    go_ret
    exact ⟨rfl, hF4.out⟩
end H
end Go.Proofs.YtkihaebaccdjdaaGreatDoor
