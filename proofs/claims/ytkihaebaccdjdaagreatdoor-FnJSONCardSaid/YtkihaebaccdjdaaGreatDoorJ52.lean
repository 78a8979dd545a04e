import Derived.Test.YtkihaebaccdjdaaGreatDoorJ49
import Derived.Test.YtkihaebaccdjdaaGreatDoorJ43
import Derived.Test.YtkihaebaccdjdaaGreatDoorJ8
import Derived.Test.YtkihaebaccdjdaaGreatDoorJ51
import Derived.Test.YtkihaebaccdjdaaGreatDoorJ17
import Derived.Deep.Slices
import Derived.WalkKit
import Derived.ProofKit
import Derived.OpenShut
set_option linter.unusedVariables false
set_option linter.unusedSimpArgs false
namespace Go.Proofs.YtkihaebaccdjdaaGreatDoor
open Go.RowKit Go.Proofs.YtkihaebaccdjdaaGreatDoorW.PrintWords Go.Proofs.YtkihaebaccdjdaaGreatDoorW.PrintLast Go.Proofs.YtkihaebaccdjdaaGreatDoorW.PrintMore
open PX
namespace H
/-! ### zzFits8 -/
theorem zz7_l0 (l : List ByteArray) : ∀ (d i : Nat), d = l.length - i → i ≤ l.length → l.length ≤ 2147483647 → ∀ F, d + 1 ≤ F → ∃ b, laws_zzFits7.l0 F l (l.length : Int) (i : Int) = some b := by
  intro d
  induction d with
  | zero =>
    intro i hd hi hl F hF
    obtain ⟨F, rfl⟩ : ∃ F', F = F' + 1 := ⟨F - 1, by omega⟩
    rw [laws_zzFits7.l0, if_neg (by omega)]
    exact ⟨_, rfl⟩
  | succ d ih =>
    intro i hd hi hl F hF
    obtain ⟨F, rfl⟩ : ∃ F', F = F' + 1 := ⟨F - 1, by omega⟩
    rw [laws_zzFits7.l0, if_pos (by omega), if_pos (by omega), if_pos (by omega)]
    have hw : wrap64 ((i : Int) + 1) = ((i + 1 : Nat) : Int) := by unfold wrap64; omega
    split
    · exact ⟨_, rfl⟩
    · rw [hw]; exact ih (i + 1) (by omega) (by omega) hl F (by omega)
theorem zz3_l0 (l : List S45) : ∀ (d i : Nat), d = l.length - i → i ≤ l.length → l.length ≤ 2147483647 → ∀ F, d + 1 ≤ F → ∃ b, laws_zzFits3.l0 F l (l.length : Int) (i : Int) = some b := by
  intro d
  induction d with
  | zero =>
    intro i hd hi hl F hF
    obtain ⟨F, rfl⟩ : ∃ F', F = F' + 1 := ⟨F - 1, by omega⟩
    rw [laws_zzFits3.l0, if_neg (by omega)]
    exact ⟨_, rfl⟩
  | succ d ih =>
    intro i hd hi hl F hF
    obtain ⟨F, rfl⟩ : ∃ F', F = F' + 1 := ⟨F - 1, by omega⟩
    rw [laws_zzFits3.l0, if_pos (by omega), if_pos (by omega), if_pos (by omega)]
    have hw : wrap64 ((i : Int) + 1) = ((i + 1 : Nat) : Int) := by unfold wrap64; omega
    rw [hw]
    have h4 : ∃ b, laws_zzFits4.f ((rd_T45 l (i : Int)).f0) ((rd_T45 l (i : Int)).f1) ((rd_T45 l (i : Int)).f2) = some b := by
      unfold laws_zzFits4.f
      split
      · exact ⟨_, rfl⟩
      · split <;> exact ⟨_, rfl⟩
    obtain ⟨b, hb⟩ := h4
    rw [hb]
    simp only [Option.bind_some]
    split
    · exact ih (i + 1) (by omega) (by omega) hl F (by omega)
    · exact ⟨_, rfl⟩
theorem zz8_f (x : S28) : ∃ k b, laws_zzFits8.f k x.f0 x.f1 x.f2 x.f3 x.f4 x.f5 x.f6 x.f7 x.f8 x.f9 = some b := by
  have h7 : ∃ b, laws_zzFits7.f (x.f3.length + x.f9.length + 2) x.f3 = some b := by
    unfold laws_zzFits7.f
    split
    · exact ⟨_, rfl⟩
    · exact zz7_l0 x.f3 x.f3.length 0 (by omega) (by omega) (by omega) _ (by omega)
  have h3 : ∃ b, laws_zzFits3.f (x.f3.length + x.f9.length + 2) x.f9 = some b := by
    unfold laws_zzFits3.f
    split
    · exact ⟨_, rfl⟩
    · exact zz3_l0 x.f9 x.f9.length 0 (by omega) (by omega) (by omega) _ (by omega)
  obtain ⟨b7, h7⟩ := h7
  obtain ⟨b3, h3⟩ := h3
  refine ⟨x.f3.length + x.f9.length + 2, ?_⟩
  unfold laws_zzFits8.f
  rw [h7, h3]
  simp only [Option.bind_some]
  repeat' split
  all_goals exact ⟨_, rfl⟩
theorem zz8_call (x : S28) (p : NA) (w : World) (hN : NH w x p) : Calls Tryz.prog 19 #[NV x p] w fun e w' => ∃ b : Bool, e = .returned (.bool b) ∧ Below w.heap.size w w' := by
  obtain ⟨k, b, h⟩ := zz8_f x
  exact (laws_zzFits8.calls k x.f0 x.f1 x.f2 p.a3 p.c3 x.f3 p.a4 p.c4 x.f4 p.a5 p.c5 x.f5 x.f6 x.f7 x.f8 p.a9 p.c9 x.f9 b w hN.h3 hN.l3 hN.h4 hN.l4 hN.h5 hN.l5 hN.h9 hN.l9 h).mono (fun e w' h => ⟨b, h.1, h.2⟩)
/-! ### The tables that the JSON encoder reads -/
def Pow (w : World) : Prop := Lib.TabIs Tryz.prog w "internal/strconv.uint64pow10" .u64 Lib.pow10Tab
theorem pow_at : Tryz.prog.globalNamed "internal/strconv.uint64pow10" = some 1 := by kernel_rfl
theorem Pow.fr {S : Nat → Prop} {w w' : World} (h : Pow w) (hF : Fr S w w') (hn : ¬ S 1) : Pow w' := by
  unfold Pow Lib.TabIs World.var? at *
  rw [pow_at] at h ⊢
  simp only [Option.bind_some] at h ⊢
  have hlt : 1 < w.heap.size := by
    rcases Nat.lt_or_ge 1 w.heap.size with h' | h'
    · exact h'
    · rw [Array.getElem?_eq_none h'] at h; simp at h
  rw [hF.block 1 hlt hn]
  exact h
def DJ (w : World) : Prop := Lib.Utf8Tabs 2 3 w ∧ Pow w
theorem DDJ (B : Nat) (hB : 4 ≤ B) : DD decL DJ B where
  keep := fun X w w' h hf => ⟨(decDD B hB).keep X w w' h.1 hf, h.2.fr hf (fun e => absurd e.1 (by omega))⟩
  dec := fun g n c zs hn hc hr =>
    have d := (decDD B hB).dec g n c zs hn hc hr
    ⟨fun w i hi hb hD => d.call w i hi hb hD.1, d.pos, fun w w' hD hb => ⟨d.keep w w' hD.1 hb, hD.2.fr (Fr.of_below (S := fun _ => False) hb) (fun h => h)⟩⟩
/-! ### laws.FnJSON -/
theorem ejT (x : S28) (p : NA) (w : World) (hN : NH w x p) (hD : DJ w) (h4 : 4 ≤ w.heap.size) (ht : Tree isJ 7 x false) (hl : (jvL decL 7 x).length ≤ 300000) :
    Calls Tryz.prog 16 #[NV x p] w fun e w' => e = .returned (.string (strOfNums (jvL decL 7 x))) ∧ Fr (fun k => w.heap.size ≤ k) w w' :=
  ejTree x p w hN hD (by omega) (fun X w1 w' h hf => (DDJ w.heap.size h4).keep X w1 w' h hf) (fun b sc => inJ_all (DDJ (w.heap.size + 1) (by omega)) (fun w h => h.2) w (Nat.le_succ _) 7 x false ht)
set_option maxHeartbeats 8000000 in
set_option maxRecDepth 100000 in
theorem fnJSON (x : S28) (p : NA) (w : World) (hN : NH w x p) (hs : Sz 7 x) (hP : Pow w) (hT : Tab w) (hU : Lib.Utf8Tabs 2 3 w) (h4 : 4 ≤ w.heap.size) :
    Calls Tryz.prog 5 #[NV x p] w fun e w' => e = .returned (.bool true) ∧ Below w.heap.size w w' := by
  have hzz := fun w h => zz8_call x p w h
  have his := fun w h => isJSON22 x p w h hs
  have hej := fun w h1 h2 h3 h4 h5 => ejT x p w h1 h2 h3 h4 h5
  have hsj := fun (w : World) (o : ByteArray) (hN : NH w x p) h2 h3 h4 h5 => saysTree (o := o) (ys := jvL decL 7 x) x p w hN h2 h3 h4 h5
  have hlow := Aside0.mk (fun (h : Tree isJ 7 x false ∧ cntL 7 x ≤ 2000 ∧ bytL 7 x ≤ 20000) => show (jvL decL 7 x).length ≤ 300000 by have := (jgood w 7 x false h.1).len; omega)
  replace hN := Aside0.mk hN; replace hP := Aside0.mk hP; replace hT := Aside0.mk hT; replace hU := Aside0.mk hU; replace h4 := Aside0.mk h4
  obtain ⟨A3, c3, A4, c4, A5, c5, A9, c9⟩ := p
  have hb := below_alloc (Below.refl w.heap.size w) (.cells #[.int .i64 x.f0, .string x.f1, .int .i64 x.f2, .slice A3 x.f3.length c3, .slice A4 x.f4.length c4, .slice A5 x.f5.length c5, .string x.f6, .string x.f7, .string x.f8, .slice A9 x.f9.length c9] 28)
  have kn := heap_new w (.cells #[.int .i64 x.f0, .string x.f1, .int .i64 x.f2, .slice A3 x.f3.length c3, .slice A4 x.f4.length c4, .slice A5 x.f5.length c5, .string x.f6, .string x.f7, .string x.f8, .slice A9 x.f9.length c9] 28)
  unfold NV at hzz his hej hsj ⊢
  dsimp only at hzz his hej hsj ⊢
  replace hzz := Aside0.mk hzz; replace his := Aside0.mk his; replace hej := Aside0.mk hej; replace hsj := Aside0.mk hsj; replace hb := Aside0.mk hb; replace kn := Aside0.mk kn
  clear hs
  go_enter Tryz.func5, Tryz.ntmps5
  go_wp2_with fail
  generalize w.alloc (.cells #[.int .i64 x.f0, .string x.f1, .int .i64 x.f2, .slice A3 x.f3.length c3, .slice A4 x.f4.length c4, .slice A5 x.f5.length c5, .string x.f6, .string x.f7, .string x.f8, .slice A9 x.f9.length c9] 28) = w1 at *
  obtain ⟨nb, hnb⟩ : ∃ nb, w.heap.size = nb := ⟨_, rfl⟩
  rw [hnb] at kn ⊢
  replace hnb := Aside0.mk hnb
  have hnn : Aside0 (w.heap.size ≤ nb) := .mk (by have := hnb.out; omega)
  have q0 := cell_at kn.out 0; have q1 := cell_at kn.out 1; have q2 := cell_at kn.out 2; have q3 := cell_at kn.out 3; have q4 := cell_at kn.out 4; have q5 := cell_at kn.out 5; have q6 := cell_at kn.out 6; have q7 := cell_at kn.out 7; have q8 := cell_at kn.out 8; have q9 := cell_at kn.out 9
  simp at q0 q1 q2 q3 q4 q5 q6 q7 q8 q9
  go_wp2_with fail
  refine (hzz.out w1 (hN.out.below hb.out)).mono ?_
  rintro e w2 ⟨b, rfl, hb2⟩
  have hB2 := Aside0.mk (below_then hb.out hb.out.size hb2)
  have kn2 := Aside0.mk (heap_below hb2 kn.out)
  clear hb2 kn hb hzz q0 q1 q2 q3 q4 q5 q6 q7 q8 q9
  cases b
  · go_wp2
    go_ret
    exact ⟨rfl, hB2.out⟩
  have q0 := cell_at kn2.out 0; have q1 := cell_at kn2.out 1; have q2 := cell_at kn2.out 2; have q3 := cell_at kn2.out 3; have q4 := cell_at kn2.out 4; have q5 := cell_at kn2.out 5; have q6 := cell_at kn2.out 6; have q7 := cell_at kn2.out 7; have q8 := cell_at kn2.out 8; have q9 := cell_at kn2.out 9
  simp at q0 q1 q2 q3 q4 q5 q6 q7 q8 q9
  go_wp2_with fail
  refine (his.out w2 (hN.out.below hB2.out)).mono ?_
  rintro e w3 ⟨b, rfl, hb3, hbt⟩
  have hB3 := Aside0.mk (below_then hB2.out hB2.out.size hb3)
  have kn3 := Aside0.mk (heap_below hb3 kn2.out)
  have hT3 := Aside0.mk (hT.out.below hB3.out); have hU3 := Aside0.mk (Utf8Tabs_below hU.out hB3.out); have h43 : Aside0 (4 ≤ w3.heap.size) := .mk (Nat.le_trans h4.out hB3.out.size)
  have hF3 : Aside0 (Fr (fun k => w.heap.size ≤ k) w w3) := .mk (Fr.of_below hB3.out)
  replace hbt := Aside0.mk hbt
  clear hb3 kn2 hB2 his q0 q1 q2 q3 q4 q5 q6 q7 q8 q9
  cases b
  · go_wp2_with fail
    refine (boworks w3 hT3.out hU3.out h43.out).mono ?_
    rintro e w4 ⟨rfl, hF⟩
    have hF1 := Aside0.mk (below_then hB3.out hB3.out.size hF.bel)
    clear hF
    go_wp2
    go_ret
    exact ⟨rfl, hF1.out⟩
  replace hbt := Aside0.mk (hbt.out rfl)
  replace hlow := Aside0.mk (hlow.out hbt.out)
  have hJ := Aside0.mk (fun w0 => jgood w0 7 x false hbt.out.1)
  have hob := bytes_nums (jvL decL 7 x) (hJ.out w).u.rng
  obtain ⟨o, ho⟩ : ∃ o, strOfNums (jvL decL 7 x) = o := ⟨_, rfl⟩
  rw [ho] at hej hob
  have hos : Aside0 (o.size ≤ 2147483647) := .mk (by rw [← bytesOf_length, hob]; have := hlow.out; omega)
  replace hob := Aside0.mk hob
  clear ho
  have q0 := cell_at kn3.out 0; have q1 := cell_at kn3.out 1; have q2 := cell_at kn3.out 2; have q3 := cell_at kn3.out 3; have q4 := cell_at kn3.out 4; have q5 := cell_at kn3.out 5; have q6 := cell_at kn3.out 6; have q7 := cell_at kn3.out 7; have q8 := cell_at kn3.out 8; have q9 := cell_at kn3.out 9
  simp at q0 q1 q2 q3 q4 q5 q6 q7 q8 q9
  go_wp2_with fail
  go_region_held3 (fun w' => w'.cell? ⟨nb, 0, none⟩ = some (.int .i64 x.f0) ∧ w'.cell? ⟨nb, 1, none⟩ = some (.string x.f1) ∧ w'.cell? ⟨nb, 2, none⟩ = some (.int .i64 x.f2) ∧ w'.cell? ⟨nb, 3, none⟩ = some (.slice A3 x.f3.length c3) ∧ w'.cell? ⟨nb, 4, none⟩ = some (.slice A4 x.f4.length c4) ∧ w'.cell? ⟨nb, 5, none⟩ = some (.slice A5 x.f5.length c5) ∧ w'.cell? ⟨nb, 6, none⟩ = some (.string x.f6) ∧ w'.cell? ⟨nb, 7, none⟩ = some (.string x.f7) ∧ w'.cell? ⟨nb, 8, none⟩ = some (.string x.f8) ∧ w'.cell? ⟨nb, 9, none⟩ = some (.slice A9 x.f9.length c9)) (simp [*, World.cell?_setCell_far]) (first | ((go_at_call 10; refine (boworks w3.drew (hT3.out.below (drewBx _)) (Utf8Tabs_below hU3.out (drewBx _)) h43.out).mono ?_; rintro e w4 ⟨rfl, hF⟩; replace hF := undrewF hF; have hF4 := Aside0.mk (hF3.out.trans hF (fun k _ h => by have h1 := hF3.out.size; have h2 : w3.heap.size ≤ k := h; omega)); have h44 : Aside0 (4 ≤ w4.heap.size) := .mk (Nat.le_trans h43.out hF.size); have kn4 := hF.heap kn3.out (fun e => by have h1 := lt_of kn3.out; have h2 : w3.heap.size ≤ nb := e; omega); have z0 := cell_at kn4 0; have z1 := cell_at kn4 1; have z2 := cell_at kn4 2; have z3 := cell_at kn4 3; have z4 := cell_at kn4 4; have z5 := cell_at kn4 5; have z6 := cell_at kn4 6; have z7 := cell_at kn4 7; have z8 := cell_at kn4 8; have z9 := cell_at kn4 9; simp at z0 z1 z2 z3 z4 z5 z6 z7 z8 z9; replace kn4 := Aside0.mk kn4; clear hF)) | ((go_at_call 16; refine (hej.out w4 (hN.out.below hF4.out.bel) ⟨Utf8Tabs_below hU.out hF4.out.bel, hP.out.fr hF4.out (fun h => by have := h4.out; omega)⟩ h44.out hbt.out.1 hlow.out).mono ?_; rintro e w5 ⟨rfl, hF⟩; have hF5 := Aside0.mk (hF4.out.trans hF (fun k _ h => by have h1 := hF4.out.size; have h2 : w4.heap.size ≤ k := h; omega)); have kn5 := hF.heap kn4.out (fun e => by have h1 := lt_of kn4.out; have h2 : w4.heap.size ≤ nb := e; omega); have u0 := cell_at kn5 0; have u1 := cell_at kn5 1; have u2 := cell_at kn5 2; have u3 := cell_at kn5 3; have u4 := cell_at kn5 4; have u5 := cell_at kn5 5; have u6 := cell_at kn5 6; have u7 := cell_at kn5 7; have u8 := cell_at kn5 8; have u9 := cell_at kn5 9; simp at u0 u1 u2 u3 u4 u5 u6 u7 u8 u9; replace kn5 := Aside0.mk kn5; clear hF)) | ((go_at_call 15; refine (hsj.out w5 o (hN.out.below hF5.out.bel) (hJ.out w5).v hob.out (hJ.out w5).u hos.out).mono ?_; rintro e w6 ⟨rfl, hb6⟩; have hF6 := Aside0.mk (hF5.out.trans (Fr.of_below (S := fun _ => False) hb6) (fun _ _ h => h.elim)); have kn6 := heap_below hb6 kn5.out; have v0 := cell_at kn6 0; have v1 := cell_at kn6 1; have v2 := cell_at kn6 2; have v3 := cell_at kn6 3; have v4 := cell_at kn6 4; have v5 := cell_at kn6 5; have v6 := cell_at kn6 6; have v7 := cell_at kn6 7; have v8 := cell_at kn6 8; have v9 := cell_at kn6 9; simp at v0 v1 v2 v3 v4 v5 v6 v7 v8 v9; clear hb6 kn6)))
  all_goals
    go_wp2
    go_ret
    exact ⟨rfl, hF6.out.bel⟩
end H
end Go.Proofs.YtkihaebaccdjdaaGreatDoor
set_option linter.unusedVariables false
set_option linter.unusedSimpArgs false
namespace Go.Proofs.YtkihaebaccdjdaaGreatDoor
open Go.RowKit Go.Proofs.YtkihaebaccdjdaaGreatDoorW.PrintWords Go.Proofs.YtkihaebaccdjdaaGreatDoorW.PrintLast Go.Proofs.YtkihaebaccdjdaaGreatDoorW.PrintMore
open PX Go.ChangeShapes Go.WideShapes Go.ChangeAt
namespace Cl
set_option maxRecDepth 100000
theorem w_all {Ho : Type} {P : Program} {e : TypeId} : ∀ {l : List (DataW Ho)} {d : DataW Ho}, d ∈ l → ∀ n ∈ d.weights P e, n ∈ DataW.weightsAll P e l
  | a :: l, d, h, n, hn => by
    unfold DataW.weightsAll
    rcases List.mem_cons.1 h with rfl | h
    · exact List.mem_append_left _ hn
    · exact List.mem_append_right _ (w_all h n hn)
/-- A row whose elements are read one by one. -/
theorem open_row {Ho : Type} {enc : TypeId × Value → Ho} {W : World} {sp : Nat → Bool} {hd : Bool} {α : Type} (z : α) (k : Kd α) (Q : α → Prop) {t e : TypeId} {fuel R : Nat} {cs : List Value} {x : DataW Ho × List MemPlace} (ht : Tryz.prog.underlying t = some (.slice e)) (hce : Tryz.prog.cellsOf e = k.sz)
    (step : ∀ n, n < fuel → ∀ cs y, DataW.trod enc Tryz.prog W 0 sp hd n e cs = some y → (∀ m ∈ y.1.weights Tryz.prog e, m ≤ R) → ∃ a : α, k.K W a cs ∧ Q a)
    (h : DataW.trod enc Tryz.prog W 0 sp hd fuel t cs = some x) (hw : ∀ m ∈ x.1.weights Tryz.prog t, m ≤ R) : ∃ (A : Option Addr) (c : Nat) (l : List α), cs = [.slice A l.length c] ∧ l.length ≤ c ∧ k.C W A l.length l ∧ ∀ a ∈ l, Q a := by
  rcases DataW.trod_slice ht h with ⟨rfl, rfl⟩ | ⟨a, len, cap, elems, rest, n, rfl, rfl, rfl, hb, hl, hm, hlen, hel, _, _⟩
  · exact ⟨none, 0, [], rfl, Nat.le_refl _, Kd.C_nil _ _, fun _ h => by cases h⟩
  · have hw2 : ∀ d ∈ elems.map (·.1), ∀ m ∈ d.weights Tryz.prog e, m ≤ R := fun d hd m hm => hw m (by
      unfold DataW.weights
      rw [ht]
      exact List.mem_cons_of_mem _ (List.mem_append_left _ (w_all hd m hm)))
    have each : ∀ i, i < len → ∃ g : α, (∃ c, c.length = k.sz ∧ k.K W g c ∧ ∀ j u, c[j]? = some u → W.cell? (a.add (i * k.sz + j)) = some u) ∧ Q g := by
      intro i hi
      have h1 := hel i hi
      rw [List.getElem?_eq_getElem (by omega)] at h1
      obtain ⟨cs', h2, h3⟩ := Option.bind_eq_some_iff.1 h1
      obtain ⟨g, hg, hq⟩ := step n (Nat.lt_succ_self n) cs' _ h3 (hw2 _ (List.mem_map_of_mem (List.getElem_mem _)))
      rw [hce] at h2
      obtain ⟨_, hcl, hcell⟩ := World.cells?_some h2
      refine ⟨g, ⟨cs', hcl, hg, fun j u hj => ?_⟩, hq⟩
      have hj2 : j < k.sz := by rw [← hcl]; exact (List.getElem?_eq_some_iff.1 hj).1
      rw [← hj, ← hcell j hj2, Deep.add_add]
    haveI : Inhabited α := ⟨z⟩
    obtain ⟨g, hg⟩ := Deep.choose_lt each
    refine ⟨some a, cap, (List.range len).map g, by simp, by simpa using hl, ⟨rfl, by simp; unfold maxLen at hm; omega, fun _ => ⟨a, rfl, fun j p hj => ?_⟩⟩, ?_⟩
    · have hlt : j < len := by
        have := (List.getElem?_eq_some_iff.1 hj).1
        simpa using this
      obtain rfl : g j = p := by
        rw [List.getElem?_map, List.getElem?_range hlt] at hj
        exact Option.some.inj hj
      exact (hg j hlt).1
    · intro y hy
      obtain ⟨i, hi, rfl⟩ := List.mem_map.1 hy
      exact (hg i (List.mem_range.1 hi)).2
theorem wf_rng {n : Int} (h : (Lit.int .i64 n).wf = true) : -9223372036854775808 ≤ n ∧ n ≤ 9223372036854775807 := by
  exact bounds_i64 h
theorem str_w {Ho : Type} {s : ByteArray} {R : Nat} (h : ∀ m ∈ (DataW.lit (H := Ho) (.string s.data.toList)).weights Tryz.prog 9, m ≤ R) : s.size ≤ R := by
  have := h s.data.toList.length (by unfold DataW.weights; simp)
  simpa using this
theorem open_str1 {Ho : Type} {enc : TypeId × Value → Ho} {W : World} {sp : Nat → Bool} {hd : Bool} {R n : Nat} {cs : List Value} {y : DataW Ho × List MemPlace} (h : DataW.trod enc Tryz.prog W 0 sp hd n 9 cs = some y) (hw : ∀ m ∈ y.1.weights Tryz.prog 9, m ≤ R) : ∃ a : ByteArray, Kd.string.K W a cs ∧ a.size ≤ R := by
  obtain ⟨s, rfl, rfl, _⟩ := DataW.trod_string Tryz.underlying9 h
  exact ⟨s, rfl, str_w hw⟩
theorem open_bool1 {Ho : Type} {enc : TypeId × Value → Ho} {W : World} {sp : Nat → Bool} {hd : Bool} {n : Nat} {cs : List Value} {y : DataW Ho × List MemPlace} (h : DataW.trod enc Tryz.prog W 0 sp hd n 4 cs = some y) : ∃ a : Bool, Kd.bool.K W a cs ∧ True := by
  obtain ⟨b, rfl, _⟩ := DataW.trod_bool Tryz.underlying4 h
  exact ⟨b, rfl, trivial⟩
theorem cells45 : Tryz.prog.cellsOf 45 = 3 := by kernel_rfl
theorem cells28 : Tryz.prog.cellsOf 28 = 10 := by kernel_rfl
theorem cells23 : Tryz.prog.cellsOf 23 = 1 := by kernel_rfl
theorem cells24 : Tryz.prog.cellsOf 24 = 1 := by kernel_rfl
theorem cells25 : Tryz.prog.cellsOf 25 = 1 := by kernel_rfl
theorem cells26 : Tryz.prog.cellsOf 26 = 1 := by kernel_rfl
theorem cells9 : Tryz.prog.cellsOf 9 = 1 := by kernel_rfl
theorem cells4 : Tryz.prog.cellsOf 4 = 1 := by kernel_rfl
theorem cells3 : Tryz.prog.cellsOf 3 = 1 := by kernel_rfl
theorem cells2 : Tryz.prog.cellsOf 2 = 1 := by kernel_rfl
theorem open_attr1 {Ho : Type} {enc : TypeId × Value → Ho} {W : World} {sp : Nat → Bool} {hd : Bool} {R n : Nat} {cs : List Value} {y : DataW Ho × List MemPlace} (h : DataW.trod enc Tryz.prog W 0 sp hd n 45 cs = some y) (hw : ∀ m ∈ y.1.weights Tryz.prog 45, m ≤ R) : ∃ a : S45, k45.K W a cs ∧ (a.f0.size ≤ R ∧ a.f1.size ≤ R) := by
  obtain ⟨xs, k, _, rfl, hl, hxl, hf⟩ := DataW.trod_struct Tryz.underlying45 h
  rw [cells45] at hl
  match cs, hl with
  | [v0, v1, v2], _ =>
    match xs, hxl with
    | [y0, y1, y2], _ =>
      have g0 := hf 0 _ rfl
      have g1 := hf 1 _ rfl
      have g2 := hf 2 _ rfl
      simp [cells9, cells4] at g0 g1 g2
      obtain ⟨n0, e0, rfl, _⟩ := DataW.trod_string Tryz.underlying9 g0
      obtain ⟨n1, e1, rfl, _⟩ := DataW.trod_string Tryz.underlying9 g1
      obtain ⟨n2, e2, rfl⟩ := DataW.trod_bool Tryz.underlying4 g2
      simp only [List.cons.injEq, and_true] at e0 e1 e2
      subst e0 e1 e2
      simp only [DataW.weights, Tryz.underlying45, List.map_cons, List.map_nil, DataW.weightsEach, List.mem_append, List.mem_cons, List.not_mem_nil, or_false] at hw
      exact ⟨⟨n0, n1, n2⟩, k45_mk W _, by simpa using hw n0.data.toList.length (.inl rfl), by simpa using hw n1.data.toList.length (.inr rfl)⟩
theorem open_tree {Ho : Type} {enc : TypeId × Value → Ho} {W : World} {sp : Nat → Bool} {hd : Bool} {R : Nat} (hR : R ≤ 140737488355328) : ∀ (fuel : Nat) (cs : List Value) (x : DataW Ho × List MemPlace), DataW.trod enc Tryz.prog W 0 sp hd fuel 28 cs = some x → (∀ m ∈ x.1.weights Tryz.prog 28, m ≤ R) →
    ∃ y : S28, k28.K W y cs ∧ ∀ l, H.Sz l y := by
  intro fuel
  induction fuel using Nat.strongRecOn with
  | _ fuel ih =>
    intro cs x h hw
    obtain ⟨xs, k, hfu, rfl, hl, hxl, hf⟩ := DataW.trod_struct Tryz.underlying28 h
    rw [cells28] at hl
    match cs, hl with
    | [v0, v1, v2, v3, v4, v5, v6, v7, v8, v9], _ =>
      match xs, hxl with
      | [y0, y1, y2, y3, y4, y5, y6, y7, y8, y9], _ =>
        have g0 := hf 0 _ rfl
        have g1 := hf 1 _ rfl
        have g2 := hf 2 _ rfl
        have g3 := hf 3 _ rfl
        have g4 := hf 4 _ rfl
        have g5 := hf 5 _ rfl
        have g6 := hf 6 _ rfl
        have g7 := hf 7 _ rfl
        have g8 := hf 8 _ rfl
        have g9 := hf 9 _ rfl
        simp [cells9, cells4, cells3, cells2, cells23, cells24, cells25, cells26] at g0 g1 g2 g3 g4 g5 g6 g7 g8 g9
        simp only [DataW.weights, Tryz.underlying28, List.map_cons, List.map_nil, DataW.weightsEach, List.mem_append, List.not_mem_nil, or_false] at hw
        obtain ⟨n0, e0, _, _⟩ := DataW.trod_int Tryz.underlying3 g0
        obtain ⟨n1, e1, x1, _⟩ := DataW.trod_string Tryz.underlying9 g1
        obtain ⟨n2, e2, _, w2⟩ := DataW.trod_int Tryz.underlying2 g2
        obtain ⟨n6, e6, x6, _⟩ := DataW.trod_string Tryz.underlying9 g6
        obtain ⟨n7, e7, x7, _⟩ := DataW.trod_string Tryz.underlying9 g7
        obtain ⟨n8, e8, x8, _⟩ := DataW.trod_string Tryz.underlying9 g8
        obtain ⟨A3, c3, l3, e3, q3, C3, s3⟩ := open_row ByteArray.empty Kd.string (fun s => s.size ≤ R) Tryz.underlying23 (cells9.trans rfl) (fun n hn cs y hy hwy => open_str1 hy hwy) g3 (fun m hm => hw m (by simp [hm]))
        obtain ⟨A4, c4, l4, e4, q4, C4, s4⟩ := open_row z28 k28 (fun y => ∀ l, H.Sz l y) Tryz.underlying24 (cells28.trans rfl) (fun n hn cs y hy hwy => ih n (by omega) cs y hy hwy) g4 (fun m hm => hw m (by simp [hm]))
        obtain ⟨A5, c5, l5, e5, q5, C5, s5⟩ := open_row false Kd.bool (fun _ => True) Tryz.underlying25 (cells4.trans rfl) (R := R) (fun n hn cs y hy _ => open_bool1 hy) g5 (fun m hm => hw m (by simp [hm]))
        obtain ⟨A9, c9, l9, e9, q9, C9, s9⟩ := open_row z45 k45 (fun a => a.f0.size ≤ R ∧ a.f1.size ≤ R) Tryz.underlying26 (cells45.trans rfl) (fun n hn cs y hy hwy => open_attr1 hy hwy) g9 (fun m hm => hw m (by simp [hm]))
        have z1 : n1.size ≤ R := str_w (Ho := Ho) (fun m hm => hw m (by have hm2 : m ∈ DataW.weights Tryz.prog 9 y1.fst := (by rw [x1]; exact hm); simp [hm2]))
        have z6 : n6.size ≤ R := str_w (Ho := Ho) (fun m hm => hw m (by have hm2 : m ∈ DataW.weights Tryz.prog 9 y6.fst := (by rw [x6]; exact hm); simp [hm2]))
        have z7 : n7.size ≤ R := str_w (Ho := Ho) (fun m hm => hw m (by have hm2 : m ∈ DataW.weights Tryz.prog 9 y7.fst := (by rw [x7]; exact hm); simp [hm2]))
        have z8 : n8.size ≤ R := str_w (Ho := Ho) (fun m hm => hw m (by have hm2 : m ∈ DataW.weights Tryz.prog 9 y8.fst := (by rw [x8]; exact hm); simp [hm2]))
        simp only [List.cons.injEq, and_true] at e0 e1 e2 e3 e4 e5 e6 e7 e8 e9
        subst e0 e1 e2 e3 e4 e5 e6 e7 e8 e9
        refine ⟨⟨n0, n1, n2, l3, l4, l5, n6, n7, n8, l9⟩, k28_mk W _ q3 C3 q4 C4 q5 C5 q9 C9, fun l => ?_⟩
        cases l with
        | zero => exact trivial
        | succ l => exact ⟨⟨Nat.le_trans z1 hR, Nat.le_trans z6 hR, Nat.le_trans z7 hR, Nat.le_trans z8 hR, wf_rng w2, fun s hs => Nat.le_trans (s3 s hs) hR, fun a ha => ⟨Nat.le_trans (s9 a ha).1 hR, Nat.le_trans (s9 a ha).2 hR⟩⟩, fun y hy => s4 y hy l⟩
theorem open_node {Ho : Type} {enc : TypeId × Value → Ho} {W : World} {b0 : Nat} {hd : Bool} {v : Value} {d : DataW Ho} {p : List MemPlace} (hval : Value.okWide Tryz.prog W .any b0 28 v) (h : DataW.Trod enc Tryz.prog W 0 (fun _ => true) hd 28 v d p) (hw : ∀ m ∈ d.weights Tryz.prog 28, m ≤ reachBytes) :
    ∃ (x : S28) (q : H.NA), v = H.NV x q ∧ H.NH W x q ∧ ∀ l, H.Sz l x := by
  obtain ⟨cs, rfl, hcs⟩ := okWide_struct Tryz.underlying28 hval
  obtain ⟨fuel, hf⟩ := h
  obtain ⟨x, hk, hs⟩ := open_tree (R := reachBytes) (by unfold reachBytes; omega) fuel _ _ hf hw
  obtain ⟨A3, c3, A4, c4, A5, c5, A9, c9, e, l3, g3, l4, g4, l5, g5, l9, g9⟩ := k28_open hk
  refine ⟨x, ⟨A3, c3, A4, c4, A5, c5, A9, c9⟩, ?_, ⟨g3, l3, g4, l4, g5, l5, g9, l9⟩, hs⟩
  unfold H.NV
  congr 1
  apply Array.ext'
  simpa [Value.cells] using e
theorem gPow : Tryz.prog.globalNamed "internal/strconv.uint64pow10" = some 1 := by kernel_rfl
theorem gPowType : (Tryz.prog.globals[1]?).map (·.type) = some 268 := by kernel_rfl
theorem cells268 : Tryz.prog.cellsOf 268 = 20 := by kernel_rfl
theorem cells153 : Tryz.prog.cellsOf 153 = 1 := by kernel_rfl
theorem laid_pow_eq : (Rows.laid_internal_strconv_uint64pow10 : DataW Unit) = Lib.tabData .u64 Lib.pow10Tab := by kernel_rfl
theorem pow_of {W : World} (h : laidMet Tryz.prog laidL W) : H.Pow W := by
  have h := h.tail.tail
  rw [laid_pow_eq] at h
  exact Lib.tabIs_of_head gPow gPowType Tryz.underlying268 Tryz.underlying153 cells153 cells268 h
end Cl
end Go.Proofs.YtkihaebaccdjdaaGreatDoor
