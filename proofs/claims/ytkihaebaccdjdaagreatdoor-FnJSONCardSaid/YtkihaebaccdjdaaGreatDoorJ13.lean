import Derived.Test.YtkihaebaccdjdaaGreatDoorJ12
set_option linter.unusedVariables false
set_option linter.unusedSimpArgs false
namespace Go.Proofs.YtkihaebaccdjdaaGreatDoor
open Go.RowKit Go.Proofs.YtkihaebaccdjdaaGreatDoorW.PrintWords Go.Proofs.YtkihaebaccdjdaaGreatDoorW.PrintLast Go.Proofs.YtkihaebaccdjdaaGreatDoorW.PrintMore
open PX
namespace H
/-! ### smxml: newValue, MemberElement, RootElement, Close, String -/
/-- A value of the encoder of XML, and its cells. -/
def XV (b sc : Nat) (lo : ByteArray) (at_ : Value) (fl : Bool) : Value := .agg #[.iface 95 (.pointer (some ⟨b, 0, none⟩)), .pointer (some ⟨sc, 0, none⟩), .string ⟨#[]⟩, .string lo, at_, .bool fl]
theorem EX.self {B b g : Nat} {X Y : Nat → Prop} {xs : List Int} {w0 w w' : World} (h : EX B b X Y xs w0 w) (hB : 4 ≤ B) (hf : Fr (fun k => k = g) w w') (hY : Y g) (hX : ¬ X g) (hg : B ≤ g) : EX B b X Y xs w0 w' :=
 ⟨h.jb.frX hf (fun k e => e ▸ hY), tabs_fr h.d hf (by omega) (by omega), h.fr.trans hf (fun k _ e => by subst e; exact ⟨hg, hX⟩), h.sub⟩
set_option maxHeartbeats 4000000 in
set_option maxRecDepth 100000 in
theorem xnew_call {B b sc : Nat} {X : Nat → Prop} {xs : List Int} (lo : ByteArray) (A : Option Addr) (n c : Nat) (l : List S172) (w : World) (hB : 4 ≤ B) (h : JB 97 B X b xs w) (hT : Lib.Utf8Tabs 2 3 w) (h0 : lo.size ≠ 0) (hs : lo.size ≤ 9223372036854775807)
 (hA : Kd.F k172 w (fun k => k < B ∨ X k) A n l) (hat : ∀ a ∈ l, okAt a) (hl : (xs ++ [60] ++ xs_ lo ++ xats l ++ [62]).length ≤ 140737488355328) :
 Calls Tryz.prog 124 #[.iface 95 (.pointer (some ⟨b, 0, none⟩)), .pointer (some ⟨sc, 0, none⟩), .agg #[.string ⟨#[]⟩, .string lo, .slice A n c]] w fun e w' => e = .returned (XV b sc lo (.slice A n c) false) ∧ Wrote 97 B X b (xs ++ [60] ++ xs_ lo ++ xats l ++ [62]) w w' ∧ Lib.Utf8Tabs 2 3 w' := by
 have hBw : Aside0 (B ≤ w.heap.size) := .mk (by have := h.ge; have := h.lt; omega)
 have hlow := Aside0.mk h.low
 have hB4 := Aside0.mk hB
 have hE0 : Aside0 (EX B b X X xs w w) := .mk ⟨h, hT, Fr.refl _ _, fun _ h => h⟩
 have hA0 := Aside0.mk hA
 replace hl := Aside0.mk hl; replace hat := Aside0.mk hat
 clear h hT hA hB
 unfold XV
 go_enter Tryz.func124, Tryz.ntmps124
 go_wp2_with fail
 have hb := below_alloc (Below.refl w.heap.size w) (.cells #[.string ⟨#[]⟩, .string lo, .slice A n c] 105)
 have hk0 := heap_new w (.cells #[.string ⟨#[]⟩, .string lo, .slice A n c] 105)
 have hz0 : (w.alloc (.cells #[.string ⟨#[]⟩, .string lo, .slice A n c] 105)).heap.size = w.heap.size + 1 := by simp
 have hE1 := Aside0.mk (hE0.out.also hb (g := w.heap.size) (Nat.le_refl _) (by simp))
 have hA1 := Aside0.mk (Kd.F_below hA0.out hb)
 clear hb
 generalize w.alloc (.cells #[.string ⟨#[]⟩, .string lo, .slice A n c] 105) = w1 at *
 obtain ⟨g, hg⟩ : ∃ g, w.heap.size = g := ⟨_, rfl⟩
 rw [hg] at hk0 hE1 hz0 ⊢
 replace hk0 := Aside0.mk hk0
 clear hE0
 clear hA0
 have hb := below_alloc (Below.refl w1.heap.size w1) (.cells #[.nilIface, .pointer none, .string ⟨#[]⟩, .string ⟨#[]⟩, .slice none 0 0, .bool false] 107)
 have hk1 := heap_new w1 (.cells #[.nilIface, .pointer none, .string ⟨#[]⟩, .string ⟨#[]⟩, .slice none 0 0, .bool false] 107)
 have hz1 : (w1.alloc (.cells #[.nilIface, .pointer none, .string ⟨#[]⟩, .string ⟨#[]⟩, .slice none 0 0, .bool false] 107)).heap.size = w1.heap.size + 1 := by simp
 have hE2 := Aside0.mk (hE1.out.also hb (g := w1.heap.size) (Nat.le_refl _) (by simp))
 replace hk0 := Aside0.mk (heap_below hb hk0.out)
 have hA2 := Aside0.mk (Kd.F_below hA1.out hb)
 clear hb
 generalize w1.alloc (.cells #[.nilIface, .pointer none, .string ⟨#[]⟩, .string ⟨#[]⟩, .slice none 0 0, .bool false] 107) = w2 at *
 rw [hz0] at hk1 hE2 hz1
 replace hk1 := Aside0.mk hk1
 clear hE1
 clear hA1
 replace hz0 := Aside0.mk hz0
 replace hz1 := Aside0.mk hz1
 refine (xstart_call lo A n c l w2 hB4.out hE2.out.jb hE2.out.d h0 hs (Kd.F_mono hA2.out (fun k hk => hk.imp id (fun x => .inl (.inl x)))) hat.out hl.out).mono ?_
 rintro e w3 ⟨rfl, hw, _⟩
 have hE3 : Aside0 (EX B b X (fun k => (X k ∨ k = g) ∨ k = g + 1) (xs ++ [60] ++ xs_ lo ++ xats l ++ [62]) w w3) := .mk (hE2.out.wrote hB4.out hw)
 replace hk0 := hw.2.heap hk0.out (fun e => e.2 (.inl (.inr rfl)))
 replace hk1 := hw.2.heap hk1.out (fun e => e.2 (.inr rfl))
 have d0 := cell_at hk0 0; have d1 := cell_at hk0 1; have d2 := cell_at hk0 2
 simp at d0 d1 d2
 clear hw hE2
 have hr := hk1
 have c0 := cell_at hr 0
 have c1 := cell_at hr 1
 have c2 := cell_at hr 2
 have c3 := cell_at hr 3
 have c4 := cell_at hr 4
 have c5 := cell_at hr 5
 have f0 := free_of hr 0
 have f1 := free_of hr 1
 have f2 := free_of hr 2
 have f3 := free_of hr 3
 have f4 := free_of hr 4
 have f5 := free_of hr 5
 simp at c0 c1 c2 c3 c4 c5
 replace hr := Aside0.mk hr
 go_wp2
 have hF := (((((((Fr.refl (fun k => k = (g + 1)) w3).setCell (p := ⟨(g + 1), 0, none⟩) (.inl rfl) (.iface 95 (.pointer (some ⟨b, 0, none⟩)))).setCell (p := ⟨(g + 1), 1, none⟩) (.inl rfl) (.pointer (some ⟨sc, 0, none⟩))).setCell (p := ⟨(g + 1), 2, none⟩) (.inl rfl) (.string ⟨#[]⟩)).setCell (p := ⟨(g + 1), 3, none⟩) (.inl rfl) (.string lo)).setCell (p := ⟨(g + 1), 4, none⟩) (.inl rfl) (.slice A n c)).setCell (p := ⟨(g + 1), 5, none⟩) (.inl rfl) (.bool false))
 have hZ := hE3.out.self hB4.out hF (.inr rfl) (fun e => by have := hlow.out _ e; have := hg; omega) (by have := hBw.out; omega)
 (try simp only [Exit.inBlock, Exit.then])
 refine bodyPost_ret (v := .agg #[.iface 95 (.pointer (some ⟨b, 0, none⟩)), .pointer (some ⟨sc, 0, none⟩), .string ⟨#[]⟩, .string lo, .slice A n c, .bool false]) ?_ rfl ⟨rfl, Wrote.done hZ⟩
 simp only [results]; go_simp

set_option maxHeartbeats 4000000 in
set_option maxRecDepth 100000 in
theorem xmem_call {B b sc : Nat} {X : Nat → Prop} {xs : List Int} (lo : ByteArray) (A : Option Addr) (n c : Nat) (l : List S172) (lo2 : ByteArray) (a2 : Option Addr) (n2 c2 : Nat) (fl2 : Bool) (w : World) (hB : 4 ≤ B) (h : JB 97 B X b xs w) (hT : Lib.Utf8Tabs 2 3 w) (h0 : lo.size ≠ 0) (hs : lo.size ≤ 9223372036854775807)
 (hA : Kd.F k172 w (fun k => k < B ∨ X k) A n l) (hat : ∀ a ∈ l, okAt a) (hl : (xs ++ [60] ++ xs_ lo ++ xats l ++ [62]).length ≤ 140737488355328) :
 Calls Tryz.prog 116 #[XV b sc lo2 (.slice a2 n2 c2) fl2, .agg #[.string ⟨#[]⟩, .string lo, .slice A n c]] w fun e w' => e = .returned (XV b sc lo (.slice A n c) false) ∧ Wrote 97 B X b (xs ++ [60] ++ xs_ lo ++ xats l ++ [62]) w w' ∧ Lib.Utf8Tabs 2 3 w' := by
 have hBw : Aside0 (B ≤ w.heap.size) := .mk (by have := h.ge; have := h.lt; omega)
 have hlow := Aside0.mk h.low
 have hB4 := Aside0.mk hB
 have hE0 : Aside0 (EX B b X X xs w w) := .mk ⟨h, hT, Fr.refl _ _, fun _ h => h⟩
 have hA0 := Aside0.mk hA
 replace hl := Aside0.mk hl; replace hat := Aside0.mk hat
 clear h hT hA hB
 unfold XV
 go_enter Tryz.func116, Tryz.ntmps116
 go_wp2_with fail
 have hb := below_alloc (Below.refl w.heap.size w) (.cells #[.iface 95 (.pointer (some ⟨b, 0, none⟩)), .pointer (some ⟨sc, 0, none⟩), .string ⟨#[]⟩, .string lo2, .slice a2 n2 c2, .bool fl2] 107)
 have hk0 := heap_new w (.cells #[.iface 95 (.pointer (some ⟨b, 0, none⟩)), .pointer (some ⟨sc, 0, none⟩), .string ⟨#[]⟩, .string lo2, .slice a2 n2 c2, .bool fl2] 107)
 have hz0 : (w.alloc (.cells #[.iface 95 (.pointer (some ⟨b, 0, none⟩)), .pointer (some ⟨sc, 0, none⟩), .string ⟨#[]⟩, .string lo2, .slice a2 n2 c2, .bool fl2] 107)).heap.size = w.heap.size + 1 := by simp
 have hE1 := Aside0.mk (hE0.out.also hb (g := w.heap.size) (Nat.le_refl _) (by simp))
 have hA1 := Aside0.mk (Kd.F_below hA0.out hb)
 clear hb
 generalize w.alloc (.cells #[.iface 95 (.pointer (some ⟨b, 0, none⟩)), .pointer (some ⟨sc, 0, none⟩), .string ⟨#[]⟩, .string lo2, .slice a2 n2 c2, .bool fl2] 107) = w1 at *
 obtain ⟨g, hg⟩ : ∃ g, w.heap.size = g := ⟨_, rfl⟩
 rw [hg] at hk0 hE1 hz0 ⊢
 replace hk0 := Aside0.mk hk0
 clear hE0
 clear hA0
 have hb := below_alloc (Below.refl w1.heap.size w1) (.cells #[.string ⟨#[]⟩, .string lo, .slice A n c] 105)
 have hk1 := heap_new w1 (.cells #[.string ⟨#[]⟩, .string lo, .slice A n c] 105)
 have hz1 : (w1.alloc (.cells #[.string ⟨#[]⟩, .string lo, .slice A n c] 105)).heap.size = w1.heap.size + 1 := by simp
 have hE2 := Aside0.mk (hE1.out.also hb (g := w1.heap.size) (Nat.le_refl _) (by simp))
 replace hk0 := Aside0.mk (heap_below hb hk0.out)
 have hA2 := Aside0.mk (Kd.F_below hA1.out hb)
 clear hb
 generalize w1.alloc (.cells #[.string ⟨#[]⟩, .string lo, .slice A n c] 105) = w2 at *
 rw [hz0] at hk1 hE2 hz1
 replace hk1 := Aside0.mk hk1
 clear hE1
 clear hA1
 have hb := below_alloc (Below.refl w2.heap.size w2) (.cells #[.nilIface, .pointer none, .string ⟨#[]⟩, .string ⟨#[]⟩, .slice none 0 0, .bool false] 107)
 have hk2 := heap_new w2 (.cells #[.nilIface, .pointer none, .string ⟨#[]⟩, .string ⟨#[]⟩, .slice none 0 0, .bool false] 107)
 have hz2 : (w2.alloc (.cells #[.nilIface, .pointer none, .string ⟨#[]⟩, .string ⟨#[]⟩, .slice none 0 0, .bool false] 107)).heap.size = w2.heap.size + 1 := by simp
 have hE3 := Aside0.mk (hE2.out.also hb (g := w2.heap.size) (Nat.le_refl _) (by simp))
 replace hk0 := Aside0.mk (heap_below hb hk0.out)
 replace hk1 := Aside0.mk (heap_below hb hk1.out)
 have hA3 := Aside0.mk (Kd.F_below hA2.out hb)
 clear hb
 generalize w2.alloc (.cells #[.nilIface, .pointer none, .string ⟨#[]⟩, .string ⟨#[]⟩, .slice none 0 0, .bool false] 107) = w3 at *
 rw [hz1] at hk2 hE3 hz2
 replace hk2 := Aside0.mk hk2
 clear hE2
 clear hA2
 replace hz0 := Aside0.mk hz0
 replace hz1 := Aside0.mk hz1
 replace hz2 := Aside0.mk hz2
 refine (xnew_call lo A n c l w3 hB4.out hE3.out.jb hE3.out.d h0 hs (Kd.F_mono hA3.out (fun k hk => hk.imp id (fun x => .inl (.inl (.inl x))))) hat.out hl.out).mono ?_
 rintro e w4 ⟨rfl, hw, _⟩
 have hE4 : Aside0 (EX B b X (fun k => ((X k ∨ k = g) ∨ k = g + 1) ∨ k = g + 1 + 1) (xs ++ [60] ++ xs_ lo ++ xats l ++ [62]) w w4) := .mk (hE3.out.wrote hB4.out hw)
 replace hk2 := hw.2.heap hk2.out (fun e => e.2 (.inr rfl))
 clear hw hE3
 unfold XV
 have hr := hk2
 have c0 := cell_at hr 0
 have c1 := cell_at hr 1
 have c2 := cell_at hr 2
 have c3 := cell_at hr 3
 have c4 := cell_at hr 4
 have c5 := cell_at hr 5
 have f0 := free_of hr 0
 have f1 := free_of hr 1
 have f2 := free_of hr 2
 have f3 := free_of hr 3
 have f4 := free_of hr 4
 have f5 := free_of hr 5
 simp at c0 c1 c2 c3 c4 c5
 replace hr := Aside0.mk hr
 go_wp2
 have hF := (((((((Fr.refl (fun k => k = (g + 1 + 1)) w4).setCell (p := ⟨(g + 1 + 1), 0, none⟩) (.inl rfl) (.iface 95 (.pointer (some ⟨b, 0, none⟩)))).setCell (p := ⟨(g + 1 + 1), 1, none⟩) (.inl rfl) (.pointer (some ⟨sc, 0, none⟩))).setCell (p := ⟨(g + 1 + 1), 2, none⟩) (.inl rfl) (.string ⟨#[]⟩)).setCell (p := ⟨(g + 1 + 1), 3, none⟩) (.inl rfl) (.string lo)).setCell (p := ⟨(g + 1 + 1), 4, none⟩) (.inl rfl) (.slice A n c)).setCell (p := ⟨(g + 1 + 1), 5, none⟩) (.inl rfl) (.bool false))
 have hZ := hE4.out.self hB4.out hF (.inr rfl) (fun e => by have := hlow.out _ e; have := hg; omega) (by have := hBw.out; omega)
 (try simp only [Exit.inBlock, Exit.then])
 refine bodyPost_ret (v := .agg #[.iface 95 (.pointer (some ⟨b, 0, none⟩)), .pointer (some ⟨sc, 0, none⟩), .string ⟨#[]⟩, .string lo, .slice A n c, .bool false]) ?_ rfl ⟨rfl, Wrote.done hZ⟩
 simp only [results]; go_simp

set_option maxHeartbeats 4000000 in
set_option maxRecDepth 100000 in
theorem xroot_call {B b sc : Nat} {X : Nat → Prop} {xs : List Int} (lo : ByteArray) (A : Option Addr) (n c : Nat) (l : List S172) (w : World) (hB : 4 ≤ B) (h : JB 97 B X b xs w) (hT : Lib.Utf8Tabs 2 3 w) (h0 : lo.size ≠ 0) (hs : lo.size ≤ 9223372036854775807)
 (hA : Kd.F k172 w (fun k => k < B ∨ X k) A n l) (hat : ∀ a ∈ l, okAt a) (hl : (xs ++ [60] ++ xs_ lo ++ xats l ++ [62]).length ≤ 140737488355328) :
 Calls Tryz.prog 45 #[.agg #[.iface 95 (.pointer (some ⟨b, 0, none⟩)), .pointer (some ⟨sc, 0, none⟩)], .agg #[.string ⟨#[]⟩, .string lo, .slice A n c]] w fun e w' => e = .returned (XV b sc lo (.slice A n c) false) ∧ Wrote 97 B X b (xs ++ [60] ++ xs_ lo ++ xats l ++ [62]) w w' ∧ Lib.Utf8Tabs 2 3 w' := by
 have hBw : Aside0 (B ≤ w.heap.size) := .mk (by have := h.ge; have := h.lt; omega)
 have hlow := Aside0.mk h.low
 have hB4 := Aside0.mk hB
 have hE0 : Aside0 (EX B b X X xs w w) := .mk ⟨h, hT, Fr.refl _ _, fun _ h => h⟩
 have hA0 := Aside0.mk hA
 replace hl := Aside0.mk hl; replace hat := Aside0.mk hat
 clear h hT hA hB
 unfold XV
 go_enter Tryz.func45, Tryz.ntmps45
 go_wp2_with fail
 have hb := below_alloc (Below.refl w.heap.size w) (.cells #[.iface 95 (.pointer (some ⟨b, 0, none⟩)), .pointer (some ⟨sc, 0, none⟩)] 163)
 have hk0 := heap_new w (.cells #[.iface 95 (.pointer (some ⟨b, 0, none⟩)), .pointer (some ⟨sc, 0, none⟩)] 163)
 have hz0 : (w.alloc (.cells #[.iface 95 (.pointer (some ⟨b, 0, none⟩)), .pointer (some ⟨sc, 0, none⟩)] 163)).heap.size = w.heap.size + 1 := by simp
 have hE1 := Aside0.mk (hE0.out.also hb (g := w.heap.size) (Nat.le_refl _) (by simp))
 have hA1 := Aside0.mk (Kd.F_below hA0.out hb)
 clear hb
 generalize w.alloc (.cells #[.iface 95 (.pointer (some ⟨b, 0, none⟩)), .pointer (some ⟨sc, 0, none⟩)] 163) = w1 at *
 obtain ⟨g, hg⟩ : ∃ g, w.heap.size = g := ⟨_, rfl⟩
 rw [hg] at hk0 hE1 hz0 ⊢
 replace hk0 := Aside0.mk hk0
 clear hE0
 clear hA0
 have hb := below_alloc (Below.refl w1.heap.size w1) (.cells #[.string ⟨#[]⟩, .string lo, .slice A n c] 105)
 have hk1 := heap_new w1 (.cells #[.string ⟨#[]⟩, .string lo, .slice A n c] 105)
 have hz1 : (w1.alloc (.cells #[.string ⟨#[]⟩, .string lo, .slice A n c] 105)).heap.size = w1.heap.size + 1 := by simp
 have hE2 := Aside0.mk (hE1.out.also hb (g := w1.heap.size) (Nat.le_refl _) (by simp))
 replace hk0 := Aside0.mk (heap_below hb hk0.out)
 have hA2 := Aside0.mk (Kd.F_below hA1.out hb)
 clear hb
 generalize w1.alloc (.cells #[.string ⟨#[]⟩, .string lo, .slice A n c] 105) = w2 at *
 rw [hz0] at hk1 hE2 hz1
 replace hk1 := Aside0.mk hk1
 clear hE1
 clear hA1
 have hb := below_alloc (Below.refl w2.heap.size w2) (.cells #[.nilIface, .pointer none, .string ⟨#[]⟩, .string ⟨#[]⟩, .slice none 0 0, .bool false] 107)
 have hk2 := heap_new w2 (.cells #[.nilIface, .pointer none, .string ⟨#[]⟩, .string ⟨#[]⟩, .slice none 0 0, .bool false] 107)
 have hz2 : (w2.alloc (.cells #[.nilIface, .pointer none, .string ⟨#[]⟩, .string ⟨#[]⟩, .slice none 0 0, .bool false] 107)).heap.size = w2.heap.size + 1 := by simp
 have hE3 := Aside0.mk (hE2.out.also hb (g := w2.heap.size) (Nat.le_refl _) (by simp))
 replace hk0 := Aside0.mk (heap_below hb hk0.out)
 replace hk1 := Aside0.mk (heap_below hb hk1.out)
 have hA3 := Aside0.mk (Kd.F_below hA2.out hb)
 clear hb
 generalize w2.alloc (.cells #[.nilIface, .pointer none, .string ⟨#[]⟩, .string ⟨#[]⟩, .slice none 0 0, .bool false] 107) = w3 at *
 rw [hz1] at hk2 hE3 hz2
 replace hk2 := Aside0.mk hk2
 clear hE2
 clear hA2
 replace hz0 := Aside0.mk hz0
 replace hz1 := Aside0.mk hz1
 replace hz2 := Aside0.mk hz2
 refine (xnew_call lo A n c l w3 hB4.out hE3.out.jb hE3.out.d h0 hs (Kd.F_mono hA3.out (fun k hk => hk.imp id (fun x => .inl (.inl (.inl x))))) hat.out hl.out).mono ?_
 rintro e w4 ⟨rfl, hw, _⟩
 have hE4 : Aside0 (EX B b X (fun k => ((X k ∨ k = g) ∨ k = g + 1) ∨ k = g + 1 + 1) (xs ++ [60] ++ xs_ lo ++ xats l ++ [62]) w w4) := .mk (hE3.out.wrote hB4.out hw)
 replace hk2 := hw.2.heap hk2.out (fun e => e.2 (.inr rfl))
 clear hw hE3
 unfold XV
 have hr := hk2
 have c0 := cell_at hr 0
 have c1 := cell_at hr 1
 have c2 := cell_at hr 2
 have c3 := cell_at hr 3
 have c4 := cell_at hr 4
 have c5 := cell_at hr 5
 have f0 := free_of hr 0
 have f1 := free_of hr 1
 have f2 := free_of hr 2
 have f3 := free_of hr 3
 have f4 := free_of hr 4
 have f5 := free_of hr 5
 simp at c0 c1 c2 c3 c4 c5
 replace hr := Aside0.mk hr
 go_wp2
 have hF := (((((((Fr.refl (fun k => k = (g + 1 + 1)) w4).setCell (p := ⟨(g + 1 + 1), 0, none⟩) (.inl rfl) (.iface 95 (.pointer (some ⟨b, 0, none⟩)))).setCell (p := ⟨(g + 1 + 1), 1, none⟩) (.inl rfl) (.pointer (some ⟨sc, 0, none⟩))).setCell (p := ⟨(g + 1 + 1), 2, none⟩) (.inl rfl) (.string ⟨#[]⟩)).setCell (p := ⟨(g + 1 + 1), 3, none⟩) (.inl rfl) (.string lo)).setCell (p := ⟨(g + 1 + 1), 4, none⟩) (.inl rfl) (.slice A n c)).setCell (p := ⟨(g + 1 + 1), 5, none⟩) (.inl rfl) (.bool false))
 have hZ := hE4.out.self hB4.out hF (.inr rfl) (fun e => by have := hlow.out _ e; have := hg; omega) (by have := hBw.out; omega)
 (try simp only [Exit.inBlock, Exit.then])
 refine bodyPost_ret (v := .agg #[.iface 95 (.pointer (some ⟨b, 0, none⟩)), .pointer (some ⟨sc, 0, none⟩), .string ⟨#[]⟩, .string lo, .slice A n c, .bool false]) ?_ rfl ⟨rfl, Wrote.done hZ⟩
 simp only [results]; go_simp

/-! ### The end of an element, a text, the encoder -/
theorem h168 (lo : ByteArray) (A : Option Addr) (n c : Nat) (w : World) : Calls Tryz.prog 168 #[.agg #[.string ⟨#[]⟩, .string lo, .slice A n c]] w fun e w' => e = .returned (.agg #[.string ⟨#[]⟩, .string lo]) ∧ Below w.heap.size w w' := by
 go_enter Tryz.func168, Tryz.ntmps168
 go_wp2
 (try simp only [Exit.inBlock, Exit.then])
 refine bodyPost_ret (v := .agg #[.string ⟨#[]⟩, .string lo]) ?_ rfl ⟨rfl, ?_⟩
 ·simp only [results]; go_simp
 ·exact below_alloc (below_alloc (Below.refl _ _) _) _
theorem undrewx {w w' : World} (h : Below w.drew.heap.size w.drew w') : Below w.heap.size w w' := ⟨h.os, h.tape, h.output, h.size, h.block⟩
set_option maxHeartbeats 4000000 in
set_option maxRecDepth 100000 in
theorem xclose_call {B b sc : Nat} {X : Nat → Prop} {xs : List Int} (lo : ByteArray) (A : Option Addr) (n c : Nat) (fl : Bool) (w : World) (hB : 4 ≤ B) (h : JB 97 B X b xs w) (hT : Lib.Utf8Tabs 2 3 w) (h0 : lo.size ≠ 0) (hs : lo.size ≤ 9223372036854775807) (hl : (xs ++ [60] ++ [47] ++ xs_ lo ++ [62]).length ≤ 140737488355328) :
 Calls Tryz.prog 117 #[XV b sc lo (.slice A n c) fl] w fun e w' => e = .returned (.tuple #[]) ∧ Wrote 97 B X b (xs ++ [60] ++ [47] ++ xs_ lo ++ [62]) w w' ∧ Lib.Utf8Tabs 2 3 w' := by
 have hB4 := Aside0.mk hB
 have hE0 : Aside0 (EX B b X X xs w w) := .mk ⟨h, hT, Fr.refl _ _, fun _ h => h⟩
 replace hl := Aside0.mk hl
 clear h hT hB
 unfold XV
 go_enter Tryz.func117, Tryz.ntmps117
 go_wp2_with fail
 have hb := below_alloc (Below.refl w.heap.size w) (.cells #[.iface 95 (.pointer (some ⟨b, 0, none⟩)), .pointer (some ⟨sc, 0, none⟩), .string ⟨#[]⟩, .string lo, .slice A n c, .bool fl] 107)
 have hk0 := heap_new w (.cells #[.iface 95 (.pointer (some ⟨b, 0, none⟩)), .pointer (some ⟨sc, 0, none⟩), .string ⟨#[]⟩, .string lo, .slice A n c, .bool fl] 107)
 have hz0 : (w.alloc (.cells #[.iface 95 (.pointer (some ⟨b, 0, none⟩)), .pointer (some ⟨sc, 0, none⟩), .string ⟨#[]⟩, .string lo, .slice A n c, .bool fl] 107)).heap.size = w.heap.size + 1 := by simp
 have hE1 := Aside0.mk (hE0.out.also hb (g := w.heap.size) (Nat.le_refl _) (by simp))
 clear hb
 generalize w.alloc (.cells #[.iface 95 (.pointer (some ⟨b, 0, none⟩)), .pointer (some ⟨sc, 0, none⟩), .string ⟨#[]⟩, .string lo, .slice A n c, .bool fl] 107) = w1 at *
 obtain ⟨g, hg⟩ : ∃ g, w.heap.size = g := ⟨_, rfl⟩
 rw [hg] at hk0 hE1 hz0 ⊢
 replace hk0 := Aside0.mk hk0
 clear hE0
 replace hz0 := Aside0.mk hz0
 have hk := hk0.out
 have c0 := cell_at hk 0; have c2 := cell_at hk 2; have c3 := cell_at hk 3; have c4 := cell_at hk 4
 simp at c0 c2 c3 c4
 clear hk
 go_region_held3 (fun w' => w'.cell? ⟨g, 0, none⟩ = some (.iface 95 (.pointer (some ⟨b, 0, none⟩))) ∧ w'.cell? ⟨g, 2, none⟩ = some (.string ⟨#[]⟩) ∧ w'.cell? ⟨g, 3, none⟩ = some (.string lo) ∧ w'.cell? ⟨g, 4, none⟩ = some (.slice A n c)) (simp [*, World.cell?_setCell_far]) (first | ((go_at_call 168; refine (h168 lo A n c _).mono ?_; rintro e w2 ⟨rfl, hb2⟩; replace hb2 := undrewx hb2; have hE2 := Aside0.mk (hE1.out.calm hb2); have hk2 := heap_below hb2 hk0.out; have c0 := cell_at hk2 0; have c2 := cell_at hk2 2; have c3 := cell_at hk2 3; have c4 := cell_at hk2 4; simp at c0 c2 c3 c4; replace hk2 := Aside0.mk hk2; clear hb2)) | ((go_at_call 167; refine (xend_call lo w2 hB4.out hE2.out.jb hE2.out.d h0 hs hl.out).mono ?_; rintro e w3 ⟨rfl, hw, _⟩; have hk3 := hw.2.heap hk2.out (fun e => e.2 (.inr rfl)); have c0 := cell_at hk3 0; have c2 := cell_at hk3 2; have c3 := cell_at hk3 3; have c4 := cell_at hk3 4; simp at c0 c2 c3 c4; have hE3 := Aside0.mk (hE2.out.wrote hB4.out hw); clear hw hk3)))
 all_goals
  go_wp2
  refine bodyPost_end (results_none rfl _ _ _) rfl ?_
  exact ⟨rfl, Wrote.done hE3.out⟩

set_option maxHeartbeats 4000000 in
set_option maxRecDepth 100000 in
theorem xstring_call {B b sc : Nat} {X : Nat → Prop} {xs : List Int} (lo : ByteArray) (A : Option Addr) (n c : Nat) (fl : Bool) (s : ByteArray) (w : World) (hB : 4 ≤ B) (h : JB 97 B X b xs w) (hT : Lib.Utf8Tabs 2 3 w) (h0 : lo.size ≠ 0) (hs : lo.size ≤ 9223372036854775807) (hs2 : s.size ≤ 9223372036854775807) (hl : (xs ++ xs_ s ++ [60] ++ [47] ++ xs_ lo ++ [62]).length ≤ 140737488355328) :
 Calls Tryz.prog 123 #[XV b sc lo (.slice A n c) fl, .string s] w fun e w' => e = .returned (.tuple #[]) ∧ Wrote 97 B X b (xs ++ xs_ s ++ [60] ++ [47] ++ xs_ lo ++ [62]) w w' ∧ Lib.Utf8Tabs 2 3 w' := by
 have hB4 := Aside0.mk hB
 have hE0 : Aside0 (EX B b X X xs w w) := .mk ⟨h, hT, Fr.refl _ _, fun _ h => h⟩
 replace hl := Aside0.mk hl
 clear h hT hB
 unfold XV
 go_enter Tryz.func123, Tryz.ntmps123
 go_wp2_with fail
 have hb := below_alloc (Below.refl w.heap.size w) (.cells #[.iface 95 (.pointer (some ⟨b, 0, none⟩)), .pointer (some ⟨sc, 0, none⟩), .string ⟨#[]⟩, .string lo, .slice A n c, .bool fl] 107)
 have hk0 := heap_new w (.cells #[.iface 95 (.pointer (some ⟨b, 0, none⟩)), .pointer (some ⟨sc, 0, none⟩), .string ⟨#[]⟩, .string lo, .slice A n c, .bool fl] 107)
 have hz0 : (w.alloc (.cells #[.iface 95 (.pointer (some ⟨b, 0, none⟩)), .pointer (some ⟨sc, 0, none⟩), .string ⟨#[]⟩, .string lo, .slice A n c, .bool fl] 107)).heap.size = w.heap.size + 1 := by simp
 have hE1 := Aside0.mk (hE0.out.also hb (g := w.heap.size) (Nat.le_refl _) (by simp))
 clear hb
 generalize w.alloc (.cells #[.iface 95 (.pointer (some ⟨b, 0, none⟩)), .pointer (some ⟨sc, 0, none⟩), .string ⟨#[]⟩, .string lo, .slice A n c, .bool fl] 107) = w1 at *
 obtain ⟨g, hg⟩ : ∃ g, w.heap.size = g := ⟨_, rfl⟩
 rw [hg] at hk0 hE1 hz0 ⊢
 replace hk0 := Aside0.mk hk0
 clear hE0
 replace hz0 := Aside0.mk hz0
 refine (xesc_call s w1 hB4.out hE1.out.jb hE1.out.d hs2 (by show (_ ++ xs_ s).length ≤ _; have := hl.out; simp only [List.length_append, List.length_cons, List.length_nil, List.append_assoc] at this ⊢; omega)).mono ?_
 rintro e w2 ⟨rfl, hw, _⟩
 have hE2 : Aside0 (EX B b X (fun k => X k ∨ k = g) (xs ++ xs_ s) w w2) := .mk (hE1.out.wrote hB4.out hw)
 have hk := hw.2.heap hk0.out (fun e => e.2 (.inr rfl))
 have c0 := cell_at hk 0; have c1 := cell_at hk 1; have c2 := cell_at hk 2; have c3 := cell_at hk 3; have c4 := cell_at hk 4; have c5 := cell_at hk 5
 simp at c0 c1 c2 c3 c4 c5
 clear hk hw hE1
 go_wp2_with fail
 refine (xclose_call (sc := sc) lo A n c fl w2 hB4.out hE2.out.jb hE2.out.d h0 hs hl.out).mono ?_
 rintro e w3 ⟨rfl, hw, _⟩
 have hE3 := Aside0.mk (hE2.out.wrote hB4.out hw)
 clear hw
 go_wp2
 refine bodyPost_end (results_none rfl _ _ _) rfl ?_
 exact ⟨rfl, Wrote.done hE3.out⟩

end H
end Go.Proofs.YtkihaebaccdjdaaGreatDoor
