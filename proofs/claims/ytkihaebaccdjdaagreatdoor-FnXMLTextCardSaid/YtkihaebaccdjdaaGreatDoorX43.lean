import Derived.Test.YtkihaebaccdjdaaGreatDoorX32
import Derived.Test.YtkihaebaccdjdaaGreatDoorX39
import Derived.Deep.RegionHeld3
import Derived.Test.YtkihaebaccdjdaaGreatDoorX5
set_option linter.unusedVariables false
set_option linter.unusedSimpArgs false
namespace Go.Proofs.YtkihaebaccdjdaaGreatDoor
open Go.RowKit Go.Proofs.YtkihaebaccdjdaaGreatDoorW.PrintWords Go.Proofs.YtkihaebaccdjdaaGreatDoorW.PrintLast Go.Proofs.YtkihaebaccdjdaaGreatDoorW.PrintMore
open PX
namespace H
/-! ### reader.content of a text -/
set_option maxHeartbeats 8000000 in
set_option maxRecDepth 100000 in
theorem contT {rs rs' : ByteArray} {k g : Nat} (s : ByteArray) (num : Int) (item kn vn : ByteArray) (a1 a2 a3 a4 : Option Addr) (n1 n2 n3 n4 c1 c2 c3 c4 : Nat) (w0 w : World)
 (hI : IsS80 w0 w g rs false) (hB : Below w0.heap.size w0 w) (hf : spec_reader_data.f k rs false 60 false = some (s, rs', false)) :
 Calls Tryz.prog 107 #[.pointer (some ⟨g, 0, none⟩), ND 0 s num (.slice a1 n1 c1) (.slice a2 n2 c2) (.slice a3 n3 c3) item kn vn (.slice a4 n4 c4)] w fun e w' => e = .returned (.tuple #[]) ∧ IsS80 w0 w' g rs' false ∧ Below w0.heap.size w0 w' ∧ KeepBut w w' g none := by
 replace hf := Aside0.mk hf
 have hb := below_alloc (Below.refl w.heap.size w) (.cells #[.int .i64 0, .string s, .int .i64 num, .slice a1 n1 c1, .slice a2 n2 c2, .slice a3 n3 c3, .string item, .string kn, .string vn, .slice a4 n4 c4] 28)
 have hk1 := heap_new w (.cells #[.int .i64 0, .string s, .int .i64 num, .slice a1 n1 c1, .slice a2 n2 c2, .slice a3 n3 c3, .string item, .string kn, .string vn, .slice a4 n4 c4] 28)
 have hI1 := Aside0.mk (hI.below hb)
 have hB1 := Aside0.mk (hB.trans (below_low hb (IsS80.ge hI) (IsS80.lt hI)))
 have hgn : Aside0 (w.heap.size ≠ g) := .mk (by have := IsS80.lt hI; omega)
 have hK1 := Aside0.mk (KeepBut.of_below hb g none)
 replace hk1 := Aside0.mk hk1
 clear hI hB hb
 unfold ND
 go_enter Tryz.func107, Tryz.ntmps107
 go_wp2_with fail
 generalize w.alloc (.cells #[.int .i64 0, .string s, .int .i64 num, .slice a1 n1 c1, .slice a2 n2 c2, .slice a3 n3 c3, .string item, .string kn, .string vn, .slice a4 n4 c4] 28) = w1 at *
 obtain ⟨nb, hnb⟩ : ∃ nb, w.heap.size = nb := ⟨_, rfl⟩
 rw [hnb] at hk1 hgn ⊢
 have hk := hk1.out
 have q0 := cell_at hk 0; have q1 := cell_at hk 1; have q2 := cell_at hk 2
 simp at q0 q1 q2
 clear hk
 go_wp2_with fail
 go_region_held3 (fun w' => w'.cell? ⟨nb, 0, none⟩ = some (.int .i64 0) ∧ w'.cell? ⟨nb, 1, none⟩ = some (.string s) ∧ w'.cell? ⟨nb, 2, none⟩ = some (.int .i64 num)) (simp [*, World.cell?_setCell_far]) (first | ((go_at_call 162; refine (spec_reader_data.calls k g rs false 60 false s rs' false w0 w1.drew hI1.out.drew (hB1.out.trans (drewB0 _ _)) hf.out).mono ?_; rintro e w2 ⟨rfl, hI2, hB2, hK2⟩; have hk2 := hK2.2 nb (lt_of hk1.out) hgn.out (by simp); replace hk2 := hk2.trans hk1.out; have q0 := cell_at hk2 0; have q1 := cell_at hk2 1; have q2 := cell_at hk2 2; simp at q0 q1 q2; replace hI2 := Aside0.mk hI2; replace hB2 := Aside0.mk hB2; replace hK2 := Aside0.mk (keep_undrew hK2); replace hk2 := Aside0.mk hk2)) | ((go_at_call 82; refine (text0 s num w2).mono ?_; rintro e w3 ⟨rfl, hb⟩; have hI3 := Aside0.mk (hI2.out.below hb); have hB3 := Aside0.mk (hB2.out.trans (below_low hb (IsS80.ge hI2.out) (IsS80.lt hI2.out))); have hK3 := Aside0.mk (hK2.out.trans (KeepBut.of_below hb g none) (.inl rfl)); have hk3 := heap_below hb hk2.out; have q0 := cell_at hk3 0; have q1 := cell_at hk3 1; have q2 := cell_at hk3 2; simp at q0 q1 q2; clear hb; replace hk3 := Aside0.mk hk3)))
 all_goals
  go_wp2
  refine bodyPost_end (results_none rfl _ _ _) rfl ?_
  exact ⟨rfl, hI3.out, hB3.out, hK1.out.trans hK3.out (.inl rfl)⟩
end H
namespace PX
def spec_reader_content.f (k : Nat) (s0_0 : ByteArray) (s0_1 : Bool) (a1_0 : Int) (a1_1 : ByteArray) (a1_2 : Int) (l1_3 : List ByteArray) (l1_4 : List (S28)) (l1_5 : List Bool) (a1_6 : ByteArray) (a1_7 : ByteArray) (a1_8 : ByteArray) (l1_9 : List (S45)) : Option (ByteArray × Bool) :=
 if s0_1 = true then none else if a1_0 = 0 then (spec_reader_data.f k s0_0 false 60 false).bind fun d => if d.2.2 = true then none else if d.1 = a1_1 then some (d.2.1, false) else none else none
theorem spec_reader_content.calls (k : Nat) (g : Nat) (s0_0 : ByteArray) (s0_1 : Bool) (a1_0 : Int) (a1_1 : ByteArray) (a1_2 : Int) (A1_3 : Option Addr) (c1_3 : Nat) (l1_3 : List ByteArray) (A1_4 : Option Addr) (c1_4 : Nat) (l1_4 : List (S28)) (A1_5 : Option Addr) (c1_5 : Nat) (l1_5 : List Bool) (a1_6 : ByteArray) (a1_7 : ByteArray) (a1_8 : ByteArray) (A1_9 : Option Addr) (c1_9 : Nat) (l1_9 : List (S45)) (r1 : ByteArray) (r2 : Bool) (w0 w : World) (hI : IsS80 w0 w g s0_0 s0_1) (hB : Below w0.heap.size w0 w) (hr1_3 : Kd.C Kd.string w A1_3 l1_3.length l1_3) (hc1_3 : l1_3.length ≤ c1_3) (hf1_3 : ∀ ad, A1_3 = some ad → 0 < l1_3.length → ad.block ≠ g) (hr1_4 : ∀ W_, KeepBut w W_ g none → Kd.C k28 W_ A1_4 l1_4.length l1_4) (hc1_4 : l1_4.length ≤ c1_4) (hr1_5 : Kd.C Kd.bool w A1_5 l1_5.length l1_5) (hc1_5 : l1_5.length ≤ c1_5) (hf1_5 : ∀ ad, A1_5 = some ad → 0 < l1_5.length → ad.block ≠ g) (hr1_9 : ∀ W_, KeepBut w W_ g none → Kd.C k45 W_ A1_9 l1_9.length l1_9) (hc1_9 : l1_9.length ≤ c1_9) (h : spec_reader_content.f k s0_0 s0_1 a1_0 a1_1 a1_2 l1_3 l1_4 l1_5 a1_6 a1_7 a1_8 l1_9 = some (r1, r2)) :
 Calls Tryz.prog 107 #[.pointer (some ⟨g, 0, none⟩), .agg #[.int .i64 a1_0, .string a1_1, .int .i64 a1_2, .slice A1_3 l1_3.length c1_3, .slice A1_4 l1_4.length c1_4, .slice A1_5 l1_5.length c1_5, .string a1_6, .string a1_7, .string a1_8, .slice A1_9 l1_9.length c1_9]] w fun e w' => e = .returned (.tuple #[]) ∧ IsS80 w0 w' g r1 r2 ∧ Below w0.heap.size w0 w' ∧ KeepBut w w' g none := by
 unfold spec_reader_content.f at h
 split at h
 ·cases h
 ·rename_i h1
  obtain rfl := Bool.eq_false_iff.2 h1
  split at h
  ·rename_i h2
   subst h2
   replace h := Option.bind_eq_some_iff.mp h
   obtain ⟨⟨d1, d2, d3⟩, e, h⟩ := h
   by_cases h3 : d3 = true
   ·simp only [h3, if_true] at h; cases h
   ·obtain rfl := Bool.eq_false_iff.2 h3
    simp only [Bool.false_eq_true, if_false] at h
    split at h
    ·rename_i h4
     subst h4
     simp only [Option.some.injEq, Prod.mk.injEq] at h
     obtain ⟨rfl, rfl⟩ := h
     exact H.contT d1 a1_2 a1_6 a1_7 a1_8 A1_3 A1_4 A1_5 A1_9 l1_3.length l1_4.length l1_5.length l1_9.length c1_3 c1_4 c1_5 c1_9 w0 w hI hB e
    ·cases h
  ·cases h
end PX
end Go.Proofs.YtkihaebaccdjdaaGreatDoor
set_option linter.unusedVariables false
namespace Go.Proofs.YtkihaebaccdjdaaGreatDoor
open Go.RowKit
namespace H
/-- An operation that yields its value in every world of S: taken. -/
theorem tk {P : Program} {md : Region.Mode} {ops : Array Oper} {Q : Exit → Act → World → Prop} {S : World → Prop} (i : Nat) {oi : Oper} {v : Value} {fuel : Nat} {listed : Array Bool} {a a' : Act} {w : World}
    (h : wpAnyH P md ops Q S fuel (listed.setIfInBounds i true) a' w) (hi : ops[i]? = some oi := by rfl)
    (hs : Region.noSelect ops = true := by kernel_rfl) (hf : Region.free md ops listed i = true := by kernel_rfl) (hr : (Region.ready md ops listed).contains i = true := by kernel_rfl)
    (hg : Region.wanted oi (yielded ops a.tmps) = true := by rfl)
    (hy : ∀ w, S w → (execOp a.eval oi).run P w = .ok (.value v) w := by intro w hSw; (try dsimp only at hSw); first | (go_simp; done) | (go_simp; with_reducible rfl))
    (ha : a.put oi.dst v = a' := by (try simp only [Act.put, List.getElem_toArray, List.getElem_cons_zero, List.getElem_cons_succ, List.setIfInBounds_toArray, List.set_cons_zero, List.set_cons_succ]); with_reducible rfl) (hS : S w := by assumption)
    (hQ : ∀ c a w, Q (.panic c) (a.put oi.dst v) w → Q (.panic c) a w := by exact fun _ _ _ h => h) : wpAnyH P md ops Q S (fuel + 1) listed a w := by
  subst ha
  exact wpAnyH_take hi hs hf hr hQ (.inl ⟨hg, hy⟩) hS h
/-- Only one operation may come up. -/
theorem rd1 {P : Program} {md : Region.Mode} {ops : Array Oper} {Q : Exit → Act → World → Prop} {S : World → Prop} (i : Nat) {o : Oper} {fuel : Nat} {listed : Array Bool} {a : Act} {w : World}
    (h : ∀ K' : Act → World → Prop, Shut (∀ a w, S w → (S w → wpAnyH P md ops Q S fuel (listed.setIfInBounds i true) a w) → K' a w) → if Region.wanted o (yielded ops a.tmps) = true then Oper.wp P o a w K' Q else K' (a.put o.dst undef) w)
    (ho : ops[i]? = some o := by rfl) (hr : Region.ready md ops listed = [i] := by kernel_rfl) : wpAnyH P md ops Q S (fuel + 1) listed a w :=
  wpAnyH_ready hr (by simp) (AllReadyH.cons ho h AllReadyH.nil)
end H
end Go.Proofs.YtkihaebaccdjdaaGreatDoor
