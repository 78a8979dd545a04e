import Derived.Test.YtkihaebaccdjdaaGreatDoorJ11
set_option linter.unusedVariables false
set_option linter.unusedSimpArgs false
namespace Go.Proofs.YtkihaebaccdjdaaGreatDoor
open Go.RowKit Go.Proofs.YtkihaebaccdjdaaGreatDoorW.PrintWords Go.Proofs.YtkihaebaccdjdaaGreatDoorW.PrintLast Go.Proofs.YtkihaebaccdjdaaGreatDoorW.PrintMore
open PX
namespace H
/-! ### smxml: an attribute, the start and the end of an element -/
theorem cw60 (w : World) : (convert 21 9 (.int .i32 60)).run Tryz.prog w = .ok (.string ⟨#[60]⟩) w := by kernel_rfl
theorem cw47 (w : World) : (convert 21 9 (.int .i32 47)).run Tryz.prog w = .ok (.string ⟨#[47]⟩) w := by kernel_rfl
theorem cw62 (w : World) : (convert 21 9 (.int .i32 62)).run Tryz.prog w = .ok (.string ⟨#[62]⟩) w := by kernel_rfl
theorem cw32 (w : World) : (convert 21 9 (.int .i32 32)).run Tryz.prog w = .ok (.string ⟨#[32]⟩) w := by kernel_rfl
theorem cw61 (w : World) : (convert 21 9 (.int .i32 61)).run Tryz.prog w = .ok (.string ⟨#[61]⟩) w := by kernel_rfl
theorem cw34 (w : World) : (convert 21 9 (.int .i32 34)).run Tryz.prog w = .ok (.string ⟨#[34]⟩) w := by kernel_rfl
theorem cw58 (w : World) : (convert 21 9 (.int .i32 58)).run Tryz.prog w = .ok (.string ⟨#[58]⟩) w := cv58 w
/-- What is written for a text. -/
def xs_ (s : ByteArray) : List Int := xesc s.size (bytesOf s)
/-- What is written for an attribute. -/
def xat (a : S172) : List Int := (if a.f0.f0.size = 0 then [] else xs_ a.f0.f0 ++ [58]) ++ xs_ a.f0.f1 ++ [61, 34] ++ xs_ a.f1 ++ [34]
theorem EX.cut {B b : Nat} {X Y Y' : Nat → Prop} {xs : List Int} {w0 w : World} (h : EX B b X Y' xs w0 w) (hY : ∀ k, Y k → Y' k) (hX : ∀ k, X k → Y k) : EX B b X Y xs w0 w := ⟨h.jb.less hY, h.d, h.fr, hX⟩
set_option maxRecDepth 100000 in
theorem xz218 (sp lo : ByteArray) (A : Option Addr) (n c : Nat) (w : World) (h : lo.size ≠ 0) : Calls Tryz.prog 218 #[.agg #[.string sp, .string lo, .slice A n c]] w fun e w' => e = .returned (.bool false) ∧ Below w.heap.size w w' := by
 have hz : ((lo.size : Int) == 0) = false := beq_eq_false_iff_ne.2 (by omega)
 go_enter Tryz.func218, Tryz.ntmps218
 go_wp2
 go_ret
 exact ⟨rfl, below_alloc (Below.refl _ _) _⟩
set_option maxRecDepth 100000 in
theorem xz202 (sp lo : ByteArray) (w : World) (h : lo.size ≠ 0) : Calls Tryz.prog 202 #[.agg #[.string sp, .string lo]] w fun e w' => e = .returned (.bool false) ∧ Below w.heap.size w w' := by
 have hz : ((lo.size : Int) == 0) = false := beq_eq_false_iff_ne.2 (by omega)
 go_enter Tryz.func202, Tryz.ntmps202
 go_wp2
 go_ret
 exact ⟨rfl, below_alloc (Below.refl _ _) _⟩
theorem Wrote.done {B b : Nat} {X Y : Nat → Prop} {ys : List Int} {w0 w : World} (h : EX B b X Y ys w0 w) : Wrote 97 B X b ys w0 w ∧ Lib.Utf8Tabs 2 3 w := ⟨⟨h.jb.less h.sub, h.fr⟩, h.d⟩
set_option maxHeartbeats 4000000 in
set_option maxRecDepth 100000 in
theorem xend_call {B b : Nat} {X : Nat → Prop} {xs : List Int} (lo : ByteArray) (w : World) (hB : 4 ≤ B) (h : JB 97 B X b xs w) (hT : Lib.Utf8Tabs 2 3 w) (h0 : lo.size ≠ 0) (hs : lo.size ≤ 9223372036854775807) (hl : (xs ++ [60] ++ [47] ++ xs_ lo ++ [62]).length ≤ 140737488355328) :
 Calls Tryz.prog 167 #[.iface 95 (.pointer (some ⟨b, 0, none⟩)), .agg #[.string ⟨#[]⟩, .string lo]] w fun e w' => e = .returned .nilIface ∧ Wrote 97 B X b (xs ++ [60] ++ [47] ++ xs_ lo ++ [62]) w w' ∧ Lib.Utf8Tabs 2 3 w' := by
 have hB4 := Aside0.mk hB
 have hE : Aside0 (EX B b X X xs w w) := .mk ⟨h, hT, Fr.refl _ _, fun _ h => h⟩
 have hm := mWR ⟨b, 0, none⟩
 replace hl := Aside0.mk hl
 have hb1 := below_alloc (Below.refl w.heap.size w) (.cells #[.string ⟨#[]⟩, .string lo] 211)
 have hg1 := heap_new w (.cells #[.string ⟨#[]⟩, .string lo] 211)
 have hEa := Aside0.mk (hE.out.also hb1 (g := w.heap.size) (Nat.le_refl _) (by simp))
 replace hb1 := Aside0.mk hb1; replace hg1 := Aside0.mk hg1
 clear h hT hB
 go_enter Tryz.func167, Tryz.ntmps167
 go_wp2_with fail
 generalize w.alloc (.cells #[.string ⟨#[]⟩, .string lo] 211) = w1 at *
 obtain ⟨g, hg⟩ : ∃ g, w.heap.size = g := ⟨_, rfl⟩
 rw [hg] at hg1 hEa ⊢
 refine (xz202 ⟨#[]⟩ lo w1 h0).mono ?_
 rintro e w2 ⟨rfl, hb2⟩
 have hE0 := Aside0.mk (hEa.out.calm hb2)
 have hg2 := heap_below hb2 hg1.out
 have c0 := cell_at hg2 0; have c1 := cell_at hg2 1
 simp at c0 c1
 replace hg2 := Aside0.mk hg2
 clear hb2 hb1 hg1 hEa hE
 go_wp2_with fail
 refine (xwr 60 ⟨#[60]⟩ cw60 w2 hE0.out.jb (by show _ + 1 ≤ _; have := hl.out; simp only [List.length_append, List.length_cons, List.length_nil, List.append_assoc] at this ⊢; omega)).mono ?_
 rintro e q0 ⟨nn, rfl, hw⟩
 have hE1 : Aside0 (EX B b X (fun k => X k ∨ k = g) (xs ++ [60]) w q0) := .mk (hE0.out.wrote hB4.out hw)
 have hh0 := hw.2.heap hg2.out (fun e => e.2 (.inr rfl))
 have c0 := cell_at hh0 0
 have c1 := cell_at hh0 1
 simp at c0 c1
 replace hh0 := Aside0.mk hh0
 clear hw hE0
 go_wp2_with fail
 refine (xwr 47 ⟨#[47]⟩ cw47 q0 hE1.out.jb (by show _ + 1 ≤ _; have := hl.out; simp only [List.length_append, List.length_cons, List.length_nil, List.append_assoc] at this ⊢; omega)).mono ?_
 rintro e q1 ⟨nn, rfl, hw⟩
 have hE2 : Aside0 (EX B b X (fun k => X k ∨ k = g) (xs ++ [60] ++ [47]) w q1) := .mk (hE1.out.wrote hB4.out hw)
 have hh1 := hw.2.heap hh0.out (fun e => e.2 (.inr rfl))
 have c0 := cell_at hh1 0
 have c1 := cell_at hh1 1
 simp at c0 c1
 replace hh1 := Aside0.mk hh1
 clear hw hE1
 go_wp2_with fail
 refine (xesc_call lo q1 hB4.out hE2.out.jb hE2.out.d hs (by show (_ ++ xs_ lo).length ≤ _; have := hl.out; simp only [List.length_append, List.length_cons, List.length_nil, List.append_assoc] at this ⊢; omega)).mono ?_
 rintro e q2 ⟨rfl, hw, _⟩
 have hE3 : Aside0 (EX B b X (fun k => X k ∨ k = g) (xs ++ [60] ++ [47] ++ xs_ lo) w q2) := .mk (hE2.out.wrote hB4.out hw)
 have hh2 := hw.2.heap hh1.out (fun e => e.2 (.inr rfl))
 have c0 := cell_at hh2 0
 have c1 := cell_at hh2 1
 simp at c0 c1
 replace hh2 := Aside0.mk hh2
 clear hw hE2
 go_wp2_with fail
 refine (xwr 62 ⟨#[62]⟩ cw62 q2 hE3.out.jb (by show _ + 1 ≤ _; have := hl.out; simp only [List.length_append, List.length_cons, List.length_nil, List.append_assoc] at this ⊢; omega)).mono ?_
 rintro e q3 ⟨nn, rfl, hw⟩
 have hE4 : Aside0 (EX B b X (fun k => X k ∨ k = g) (xs ++ [60] ++ [47] ++ xs_ lo ++ [62]) w q3) := .mk (hE3.out.wrote hB4.out hw)
 have hh3 := hw.2.heap hh2.out (fun e => e.2 (.inr rfl))
 have c0 := cell_at hh3 0
 have c1 := cell_at hh3 1
 simp at c0 c1
 replace hh3 := Aside0.mk hh3
 clear hw hE3
 go_wp2
 go_ret
 exact ⟨rfl, Wrote.done hE4.out⟩

set_option maxHeartbeats 4000000 in
set_option maxRecDepth 100000 in
theorem xat_call {B b p : Nat} {X : Nat → Prop} {xs : List Int} (a : S172) (w : World) (hB : 4 ≤ B) (h : JB 97 B X b xs w) (hT : Lib.Utf8Tabs 2 3 w) (hp : w.heap[p]? = some (.cells #[.string a.f0.f0, .string a.f0.f1, .string a.f1] 172 (0, 0))) (hX : X p)
 (h0 : a.f0.f1.size ≠ 0) (hs0 : a.f0.f0.size ≤ 9223372036854775807) (hs1 : a.f0.f1.size ≤ 9223372036854775807) (hs2 : a.f1.size ≤ 9223372036854775807) (hl : (xs ++ xat a).length ≤ 140737488355328) :
 Calls Tryz.prog 219 #[.iface 95 (.pointer (some ⟨b, 0, none⟩)), .pointer (some ⟨p, 0, none⟩)] w fun e w' => e = .returned (.tuple #[]) ∧ Wrote 97 B X b (xs ++ xat a) w w' ∧ Lib.Utf8Tabs 2 3 w' := by
 obtain ⟨⟨sp, lo⟩, va⟩ := a
 simp only at hp h0 hs0 hs1 hs2
 have hB4 := Aside0.mk hB
 have hE0 : Aside0 (EX B b X X xs w w) := .mk ⟨h, hT, Fr.refl _ _, fun _ h => h⟩
 have hm := mWR ⟨b, 0, none⟩
 have hz : ((lo.size : Int) == 0) = false := beq_eq_false_iff_ne.2 (by omega)
 have hz' : ((lo.size : Int) != 0) = true := bne_iff_ne.2 (by omega)
 have c0 := cell_at hp 0; have c1 := cell_at hp 1; have c2 := cell_at hp 2
 simp at c0 c1 c2
 have hg2 := Aside0.mk hp
 clear h hT hB hp
 by_cases hsp : sp.size = 0
 ·have hy : ((sp.size : Int) != 0) = false := bne_eq_false_iff_eq.2 (by omega)
  have he : xat ⟨⟨sp, lo⟩, va⟩ = xs_ lo ++ [61] ++ [34] ++ xs_ va ++ [34] := by simp [xat, hsp]
  rw [he] at hl ⊢
  replace hl := Aside0.mk hl
  go_enter Tryz.func219, Tryz.ntmps219
  go_wp2_with fail
  refine (xesc_call lo w hB4.out hE0.out.jb hE0.out.d hs1 (by show (_ ++ xs_ lo).length ≤ _; have := hl.out; simp only [List.length_append, List.length_cons, List.length_nil, List.append_assoc] at this ⊢; omega)).mono ?_
  rintro e q0 ⟨rfl, hw, _⟩
  have hE1 : Aside0 (EX B b X X (xs ++ xs_ lo) w q0) := .mk (hE0.out.wrote hB4.out hw)
  have hh0 := hw.2.heap hg2.out (fun e => e.2 hX)
  have c0 := cell_at hh0 0
  have c1 := cell_at hh0 1
  have c2 := cell_at hh0 2
  simp at c0 c1 c2
  replace hh0 := Aside0.mk hh0
  clear hw hE0
  go_wp2_with fail
  refine (xwr 61 ⟨#[61]⟩ cw61 q0 hE1.out.jb (by show _ + 1 ≤ _; have := hl.out; simp only [List.length_append, List.length_cons, List.length_nil, List.append_assoc] at this ⊢; omega)).mono ?_
  rintro e q1 ⟨nn, rfl, hw⟩
  have hE2 : Aside0 (EX B b X X (xs ++ xs_ lo ++ [61]) w q1) := .mk (hE1.out.wrote hB4.out hw)
  have hh1 := hw.2.heap hh0.out (fun e => e.2 hX)
  have c0 := cell_at hh1 0
  have c1 := cell_at hh1 1
  have c2 := cell_at hh1 2
  simp at c0 c1 c2
  replace hh1 := Aside0.mk hh1
  clear hw hE1
  go_wp2_with fail
  refine (xwr 34 ⟨#[34]⟩ cw34 q1 hE2.out.jb (by show _ + 1 ≤ _; have := hl.out; simp only [List.length_append, List.length_cons, List.length_nil, List.append_assoc] at this ⊢; omega)).mono ?_
  rintro e q2 ⟨nn, rfl, hw⟩
  have hE3 : Aside0 (EX B b X X (xs ++ xs_ lo ++ [61] ++ [34]) w q2) := .mk (hE2.out.wrote hB4.out hw)
  have hh2 := hw.2.heap hh1.out (fun e => e.2 hX)
  have c0 := cell_at hh2 0
  have c1 := cell_at hh2 1
  have c2 := cell_at hh2 2
  simp at c0 c1 c2
  replace hh2 := Aside0.mk hh2
  clear hw hE2
  go_wp2_with fail
  refine (xesc_call va q2 hB4.out hE3.out.jb hE3.out.d hs2 (by show (_ ++ xs_ va).length ≤ _; have := hl.out; simp only [List.length_append, List.length_cons, List.length_nil, List.append_assoc] at this ⊢; omega)).mono ?_
  rintro e q3 ⟨rfl, hw, _⟩
  have hE4 : Aside0 (EX B b X X (xs ++ xs_ lo ++ [61] ++ [34] ++ xs_ va) w q3) := .mk (hE3.out.wrote hB4.out hw)
  have hh3 := hw.2.heap hh2.out (fun e => e.2 hX)
  have c0 := cell_at hh3 0
  have c1 := cell_at hh3 1
  have c2 := cell_at hh3 2
  simp at c0 c1 c2
  replace hh3 := Aside0.mk hh3
  clear hw hE3
  go_wp2_with fail
  refine (xwr 34 ⟨#[34]⟩ cw34 q3 hE4.out.jb (by show _ + 1 ≤ _; have := hl.out; simp only [List.length_append, List.length_cons, List.length_nil, List.append_assoc] at this ⊢; omega)).mono ?_
  rintro e q4 ⟨nn, rfl, hw⟩
  have hE5 : Aside0 (EX B b X X (xs ++ xs_ lo ++ [61] ++ [34] ++ xs_ va ++ [34]) w q4) := .mk (hE4.out.wrote hB4.out hw)
  have hh4 := hw.2.heap hh3.out (fun e => e.2 hX)
  have c0 := cell_at hh4 0
  have c1 := cell_at hh4 1
  have c2 := cell_at hh4 2
  simp at c0 c1 c2
  replace hh4 := Aside0.mk hh4
  clear hw hE4
  go_wp2
  refine bodyPost_end (results_none rfl _ _ _) rfl ?_
  exact ⟨rfl, by simpa using Wrote.done hE5.out⟩
 ·have hy : ((sp.size : Int) != 0) = true := bne_iff_ne.2 (by omega)
  have he : xat ⟨⟨sp, lo⟩, va⟩ = xs_ sp ++ [58] ++ xs_ lo ++ [61] ++ [34] ++ xs_ va ++ [34] := by simp [xat, hsp]
  rw [he] at hl ⊢
  replace hl := Aside0.mk hl
  go_enter Tryz.func219, Tryz.ntmps219
  go_wp2_with fail
  refine (xesc_call sp w hB4.out hE0.out.jb hE0.out.d hs0 (by show (_ ++ xs_ sp).length ≤ _; have := hl.out; simp only [List.length_append, List.length_cons, List.length_nil, List.append_assoc] at this ⊢; omega)).mono ?_
  rintro e q0 ⟨rfl, hw, _⟩
  have hE1 : Aside0 (EX B b X X (xs ++ xs_ sp) w q0) := .mk (hE0.out.wrote hB4.out hw)
  have hh0 := hw.2.heap hg2.out (fun e => e.2 hX)
  have c0 := cell_at hh0 0
  have c1 := cell_at hh0 1
  have c2 := cell_at hh0 2
  simp at c0 c1 c2
  replace hh0 := Aside0.mk hh0
  clear hw hE0
  go_wp2_with fail
  refine (xwr 58 ⟨#[58]⟩ cw58 q0 hE1.out.jb (by show _ + 1 ≤ _; have := hl.out; simp only [List.length_append, List.length_cons, List.length_nil, List.append_assoc] at this ⊢; omega)).mono ?_
  rintro e q1 ⟨nn, rfl, hw⟩
  have hE2 : Aside0 (EX B b X X (xs ++ xs_ sp ++ [58]) w q1) := .mk (hE1.out.wrote hB4.out hw)
  have hh1 := hw.2.heap hh0.out (fun e => e.2 hX)
  have c0 := cell_at hh1 0
  have c1 := cell_at hh1 1
  have c2 := cell_at hh1 2
  simp at c0 c1 c2
  replace hh1 := Aside0.mk hh1
  clear hw hE1
  go_wp2_with fail
  refine (xesc_call lo q1 hB4.out hE2.out.jb hE2.out.d hs1 (by show (_ ++ xs_ lo).length ≤ _; have := hl.out; simp only [List.length_append, List.length_cons, List.length_nil, List.append_assoc] at this ⊢; omega)).mono ?_
  rintro e q2 ⟨rfl, hw, _⟩
  have hE3 : Aside0 (EX B b X X (xs ++ xs_ sp ++ [58] ++ xs_ lo) w q2) := .mk (hE2.out.wrote hB4.out hw)
  have hh2 := hw.2.heap hh1.out (fun e => e.2 hX)
  have c0 := cell_at hh2 0
  have c1 := cell_at hh2 1
  have c2 := cell_at hh2 2
  simp at c0 c1 c2
  replace hh2 := Aside0.mk hh2
  clear hw hE2
  go_wp2_with fail
  refine (xwr 61 ⟨#[61]⟩ cw61 q2 hE3.out.jb (by show _ + 1 ≤ _; have := hl.out; simp only [List.length_append, List.length_cons, List.length_nil, List.append_assoc] at this ⊢; omega)).mono ?_
  rintro e q3 ⟨nn, rfl, hw⟩
  have hE4 : Aside0 (EX B b X X (xs ++ xs_ sp ++ [58] ++ xs_ lo ++ [61]) w q3) := .mk (hE3.out.wrote hB4.out hw)
  have hh3 := hw.2.heap hh2.out (fun e => e.2 hX)
  have c0 := cell_at hh3 0
  have c1 := cell_at hh3 1
  have c2 := cell_at hh3 2
  simp at c0 c1 c2
  replace hh3 := Aside0.mk hh3
  clear hw hE3
  go_wp2_with fail
  refine (xwr 34 ⟨#[34]⟩ cw34 q3 hE4.out.jb (by show _ + 1 ≤ _; have := hl.out; simp only [List.length_append, List.length_cons, List.length_nil, List.append_assoc] at this ⊢; omega)).mono ?_
  rintro e q4 ⟨nn, rfl, hw⟩
  have hE5 : Aside0 (EX B b X X (xs ++ xs_ sp ++ [58] ++ xs_ lo ++ [61] ++ [34]) w q4) := .mk (hE4.out.wrote hB4.out hw)
  have hh4 := hw.2.heap hh3.out (fun e => e.2 hX)
  have c0 := cell_at hh4 0
  have c1 := cell_at hh4 1
  have c2 := cell_at hh4 2
  simp at c0 c1 c2
  replace hh4 := Aside0.mk hh4
  clear hw hE4
  go_wp2_with fail
  refine (xesc_call va q4 hB4.out hE5.out.jb hE5.out.d hs2 (by show (_ ++ xs_ va).length ≤ _; have := hl.out; simp only [List.length_append, List.length_cons, List.length_nil, List.append_assoc] at this ⊢; omega)).mono ?_
  rintro e q5 ⟨rfl, hw, _⟩
  have hE6 : Aside0 (EX B b X X (xs ++ xs_ sp ++ [58] ++ xs_ lo ++ [61] ++ [34] ++ xs_ va) w q5) := .mk (hE5.out.wrote hB4.out hw)
  have hh5 := hw.2.heap hh4.out (fun e => e.2 hX)
  have c0 := cell_at hh5 0
  have c1 := cell_at hh5 1
  have c2 := cell_at hh5 2
  simp at c0 c1 c2
  replace hh5 := Aside0.mk hh5
  clear hw hE5
  go_wp2_with fail
  refine (xwr 34 ⟨#[34]⟩ cw34 q5 hE6.out.jb (by show _ + 1 ≤ _; have := hl.out; simp only [List.length_append, List.length_cons, List.length_nil, List.append_assoc] at this ⊢; omega)).mono ?_
  rintro e q6 ⟨nn, rfl, hw⟩
  have hE7 : Aside0 (EX B b X X (xs ++ xs_ sp ++ [58] ++ xs_ lo ++ [61] ++ [34] ++ xs_ va ++ [34]) w q6) := .mk (hE6.out.wrote hB4.out hw)
  have hh6 := hw.2.heap hh5.out (fun e => e.2 hX)
  have c0 := cell_at hh6 0
  have c1 := cell_at hh6 1
  have c2 := cell_at hh6 2
  simp at c0 c1 c2
  replace hh6 := Aside0.mk hh6
  clear hw hE6
  go_wp2
  refine bodyPost_end (results_none rfl _ _ _) rfl ?_
  exact ⟨rfl, by simpa using Wrote.done hE7.out⟩

theorem keep_ok {B : Nat} {X Y : Nat → Prop} {w w' : World} (hBw : B ≤ w.heap.size) (hf : Fr (fun k => B ≤ k ∧ ¬ Y k) w w') (hXY : ∀ k, X k → Y k) : ∀ k, (k < B ∨ X k) → k < w.heap.size → w'.heap[k]? = w.heap[k]? :=
 fun k hk hlt => hf.block k hlt (fun e => by rcases hk with hk | hk; exact absurd e.1 (by omega); exact e.2 (hXY k hk))
/-- What is written for attributes. -/
def xats (l : List S172) : List Int := l.flatMap (fun a => 32 :: xat a)
/-- A start element's own text: no space of names, a name, attributes that have names. -/
def okAt (a : S172) : Prop := a.f0.f1.size ≠ 0 ∧ a.f0.f0.size ≤ 9223372036854775807 ∧ a.f0.f1.size ≤ 9223372036854775807 ∧ a.f1.size ≤ 9223372036854775807
theorem xats_take (l : List S172) (i : Nat) (h : i < l.length) : xats (l.take (i + 1)) = xats (l.take i) ++ [32] ++ xat (rd_T172 l i) := by
 have e : rd_T172 l i = l[i] := by simp [rd_T172, List.getD_eq_getElem?_getD, h]
 rw [e, List.take_succ_eq_append_getElem h]
 unfold xats
 rw [List.flatMap_append]
 simp
theorem xats_len (l : List S172) (i : Nat) : (xats (l.take i)).length ≤ (xats l).length := by
 have : xats l = xats (l.take i) ++ xats (l.drop i) := by unfold xats; rw [← List.flatMap_append, List.take_append_drop]
 rw [this, List.length_append]
 omega
set_option maxHeartbeats 4000000 in
set_option maxRecDepth 100000 in
theorem xstart_call {B b : Nat} {X : Nat → Prop} {xs : List Int} (lo : ByteArray) (A : Option Addr) (n c : Nat) (l : List S172) (w : World) (hB : 4 ≤ B) (h : JB 97 B X b xs w) (hT : Lib.Utf8Tabs 2 3 w) (h0 : lo.size ≠ 0) (hs : lo.size ≤ 9223372036854775807)
 (hA : Kd.F k172 w (fun k => k < B ∨ X k) A n l) (hat : ∀ a ∈ l, okAt a) (hl : (xs ++ [60] ++ xs_ lo ++ xats l ++ [62]).length ≤ 140737488355328) :
 Calls Tryz.prog 174 #[.iface 95 (.pointer (some ⟨b, 0, none⟩)), .agg #[.string ⟨#[]⟩, .string lo, .slice A n c]] w fun e w' => e = .returned .nilIface ∧ Wrote 97 B X b (xs ++ [60] ++ xs_ lo ++ xats l ++ [62]) w w' ∧ Lib.Utf8Tabs 2 3 w' := by
 have hB4 := Aside0.mk hB
 have hBw : Aside0 (B ≤ w.heap.size) := .mk (by have := h.ge; have := h.lt; omega)
 have hE : Aside0 (EX B b X X xs w w) := .mk ⟨h, hT, Fr.refl _ _, fun _ h => h⟩
 have hm := mWR ⟨b, 0, none⟩
 have hnl : l.length = n := Kd.F_len hA
 have hn63 : n ≤ 9223372036854775807 := Kd.F_max hA
 have hAa := Aside0.mk hA
 replace hl := Aside0.mk hl; replace hat := Aside0.mk hat; replace hnl := Aside0.mk hnl
 have hb1 := below_alloc (Below.refl w.heap.size w) (.cells #[.string ⟨#[]⟩, .string lo, .slice A n c] 105)
 have hg1 := heap_new w (.cells #[.string ⟨#[]⟩, .string lo, .slice A n c] 105)
 have hEa := Aside0.mk (hE.out.also hb1 (g := w.heap.size) (Nat.le_refl _) (by simp))
 replace hb1 := Aside0.mk hb1; replace hg1 := Aside0.mk hg1
 clear h hT hB hA
 go_enter Tryz.func174, Tryz.ntmps174
 go_wp2_with fail
 generalize w.alloc (.cells #[.string ⟨#[]⟩, .string lo, .slice A n c] 105) = w1 at *
 obtain ⟨g, hg⟩ : ∃ g, w.heap.size = g := ⟨_, rfl⟩
 rw [hg] at hg1 hEa ⊢
 refine (xz218 ⟨#[]⟩ lo A n c w1 h0).mono ?_
 rintro e w2 ⟨rfl, hb2⟩
 have hE0 := Aside0.mk (hEa.out.calm hb2)
 have hg2 := heap_below hb2 hg1.out
 have c0 := cell_at hg2 0; have c1 := cell_at hg2 1; have c2 := cell_at hg2 2
 simp at c0 c1 c2
 replace hg2 := Aside0.mk hg2
 clear hb2 hb1 hg1 hEa
 go_wp2_with fail
 refine (xwr 60 ⟨#[60]⟩ cw60 w2 hE0.out.jb (by show _ + 1 ≤ _; have := hl.out; simp only [List.length_append, List.length_cons, List.length_nil, List.append_assoc] at this ⊢; omega)).mono ?_
 rintro e q0 ⟨nn, rfl, hw⟩
 have hE1 : Aside0 (EX B b X (fun k => X k ∨ k = g) (xs ++ [60]) w q0) := .mk (hE0.out.wrote hB4.out hw)
 have hh0 := hw.2.heap hg2.out (fun e => e.2 (.inr rfl))
 have c0 := cell_at hh0 0
 have c1 := cell_at hh0 1
 have c2 := cell_at hh0 2
 simp at c0 c1 c2
 replace hh0 := Aside0.mk hh0
 clear hw hE0
 go_wp2_with fail
 refine (xesc_call lo q0 hB4.out hE1.out.jb hE1.out.d hs (by show (_ ++ xs_ lo).length ≤ _; have := hl.out; simp only [List.length_append, List.length_cons, List.length_nil, List.append_assoc] at this ⊢; omega)).mono ?_
 rintro e q1 ⟨rfl, hw, _⟩
 have hE2 : Aside0 (EX B b X (fun k => X k ∨ k = g) (xs ++ [60] ++ xs_ lo) w q1) := .mk (hE1.out.wrote hB4.out hw)
 have hh1 := hw.2.heap hh0.out (fun e => e.2 (.inr rfl))
 have c0 := cell_at hh1 0
 have c1 := cell_at hh1 1
 have c2 := cell_at hh1 2
 simp at c0 c1 c2
 replace hh1 := Aside0.mk hh1
 clear hw hE1
 go_wp2_with fail
 clear c0 c1 c2
 go_loopg [32] n (fun q v32 w' => ∃ i : Nat, v32 = .int .i64 i ∧ i ≤ n ∧ Aside0 (q = n - i) ∧ Aside0 (EX B b X X (xs ++ [60] ++ xs_ lo ++ xats (l.take i)) w w'))
 case atStart => exact ⟨0, rfl, Nat.zero_le _, ⟨by omega⟩, ⟨by simpa [xats] using hE2.out.cut (fun k hk => .inl hk) (fun _ h => h)⟩⟩
 case round =>
  clear hE2 hg2 hh0 hh1
  obtain ⟨i, rfl, hin, hq, hI⟩ := hrel
  by_cases hlt : i < n
  ·have hF := Kd.F_step hAa.out (keep_ok hBw.out hI.out.fr (fun _ h => h))
   obtain ⟨ad, rfl, d0, d1, d2⟩ := at_T172 (Kd.F_now hF) i (by omega) (by omega)
   have hmem : rd_T172 l i ∈ l := by
    have := hnl.out
    simp [rd_T172, List.getD_eq_getElem?_getD, show i < l.length by omega]
   have hok := hat.out _ hmem
   have htk := xats_take l i (by have := hnl.out; omega)
   have htl := xats_len l (i + 1)
   obtain ⟨a, ha⟩ : ∃ a, rd_T172 l i = a := ⟨_, rfl⟩
   rw [ha] at d0 d1 d2 hok htk
   simp only [Int.toNat_natCast] at d0 d1 d2
   replace hF := Aside0.mk hF; replace hok := Aside0.mk hok
   rw [htk] at htl
   replace htk := Aside0.mk htk; replace htl := Aside0.mk htl
   go_wp2_with fail
   have hb2 := below_alloc (Below.refl wr.heap.size wr) (.cells #[.string a.f0.f0, .string a.f0.f1, .string a.f1] 172)
   have hg2 := heap_new wr (.cells #[.string a.f0.f0, .string a.f0.f1, .string a.f1] 172)
   have hE0 := Aside0.mk (hI.out.also hb2 (g := wr.heap.size) (Nat.le_refl _) (by simp))
   generalize wr.alloc (.cells #[.string a.f0.f0, .string a.f0.f1, .string a.f1] 172) = w2 at *
   obtain ⟨p, hp⟩ : ∃ p, wr.heap.size = p := ⟨_, rfl⟩
   rw [hp] at hg2 hE0 ⊢
   replace hg2 := Aside0.mk hg2
   clear hb2
   refine (xwr 32 ⟨#[32]⟩ cw32 w2 hE0.out.jb (by show _ + 1 ≤ _; have := hl.out; have h2 := htl.out; simp only [List.length_append, List.length_cons, List.length_nil, List.append_assoc] at this h2 ⊢; omega)).mono ?_
   rintro e w3 ⟨nn, rfl, hw⟩
   have hE1 : Aside0 (EX B b X (fun k => X k ∨ k = p) (xs ++ [60] ++ xs_ lo ++ xats (l.take i) ++ [32]) w w3) := .mk (hE0.out.wrote hB4.out hw)
   have hg3 := Aside0.mk (hw.2.heap hg2.out (fun e => e.2 (.inr rfl)))
   clear hw hE0
   go_wp2_with fail
   refine (xat_call a w3 hB4.out hE1.out.jb hE1.out.d hg3.out (.inr rfl) hok.out.1 hok.out.2.1 hok.out.2.2.1 hok.out.2.2.2 (by have := hl.out; have h2 := htl.out; simp only [List.length_append, List.length_cons, List.length_nil, List.append_assoc] at this h2 ⊢; omega)).mono ?_
   rintro e w4 ⟨rfl, hw, _⟩
   have hE2 : Aside0 (EX B b X X (xs ++ [60] ++ xs_ lo ++ xats (l.take (i + 1))) w w4) := .mk (by
    have h := (hE1.out.wrote hB4.out hw).less
    rw [htk.out]
    simpa using h)
   clear hw
   go_wp2_with fail
   go_roundg (n - (i + 1))
   case rel => exact ⟨i + 1, by go_num, by omega, ⟨rfl⟩, hE2⟩
   case measure => have := hq.out; omega
  ·obtain rfl : i = n := by omega
   go_wp2_with fail
   rw [List.take_of_length_le (by have := hnl.out; omega)] at hI
   refine (xwr 62 ⟨#[62]⟩ cw62 wr hI.out.jb (by show _ + 1 ≤ _; have := hl.out; simp only [List.length_append, List.length_cons, List.length_nil, List.append_assoc] at this ⊢; omega)).mono ?_
   rintro e w3 ⟨nn, rfl, hw⟩
   have hE3 : Aside0 (EX B b X X (xs ++ [60] ++ xs_ lo ++ xats l ++ [62]) w w3) := .mk (hI.out.wrote hB4.out hw)
   clear hw
   go_wp2
   go_ret
   exact ⟨rfl, Wrote.done hE3.out⟩

end H
end Go.Proofs.YtkihaebaccdjdaaGreatDoor
