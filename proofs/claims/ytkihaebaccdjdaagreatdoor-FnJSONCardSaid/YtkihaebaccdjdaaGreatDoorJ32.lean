import Derived.Test.YtkihaebaccdjdaaGreatDoorJ31
import Derived.Test.YtkihaebaccdjdaaGreatDoorJ29
import Derived.Test.YtkihaebaccdjdaaGreatDoorJ8
import Derived.Test.YtkihaebaccdjdaaGreatDoorJ14
set_option linter.unusedVariables false
set_option linter.unusedSimpArgs false
namespace Go.Proofs.YtkihaebaccdjdaaGreatDoor
open Go.RowKit Go.Proofs.YtkihaebaccdjdaaGreatDoorW.PrintWords Go.Proofs.YtkihaebaccdjdaaGreatDoorW.PrintLast Go.Proofs.YtkihaebaccdjdaaGreatDoorW.PrintMore
namespace H
/-! ### The encoder's scratch beside its buffer -/
theorem own_cut0 {w : World} {B n c : Nat} {A : Option Addr} {xs : List Value} (h : w.ownsRow B 5 1 (.slice A n c) n xs) : w.ownsRow B 5 1 (.slice A 0 c) 0 [] := by
  refine ⟨rfl, ?_⟩
  rcases h.2 with ⟨h1, _⟩ | ⟨g, cap, cur, h1, h2, h3, h4, h5, h6, _⟩
  · injection h1 with h1 _ h2
    subst h1 h2
    exact .inl ⟨rfl, rfl⟩
  · injection h1 with h1 _ h7
    subst h1 h7
    exact .inr ⟨g, c, cur, rfl, h2, h3, Nat.zero_le _, h5, h6, by simp⟩
theorem own_cutB {n c : Nat} {A : Option Addr} : (Value.slice A 0 c).ownBlock = (Value.slice A n c).ownBlock := by
  cases A <;> rfl
theorem own_reads {w : World} {B : Nat} {v : Value} {zs : List Int} (h : w.ownsRow B 5 1 v zs.length (nums .u8 zs)) : ∃ A c, v = .slice A zs.length c ∧ ReadsInt w .u8 A zs.length zs := by
  obtain ⟨A, c, rfl⟩ := own_slice h
  refine ⟨A, c, rfl, rfl, ?_, fun hn => ?_⟩
  · rcases h.2 with ⟨h1, _⟩ | ⟨g, cap, cur, h1, _, _, h4, h5, _⟩
    · injection h1 with _ h1 _; omega
    · unfold maxLen at h5; omega
  · rcases h.2 with ⟨h1, h2⟩ | ⟨g, cap, cur, h1, _, _, _, _, _, _⟩
    · injection h1 with _ h1 _; omega
    · injection h1 with h1 _ _
      subst h1
      refine ⟨_, rfl, fun j hj => ?_⟩
      exact h.cells (g := g) rfl j _ (by simp [nums, List.getD_eq_getElem?_getD, hj])
theorem JB.trade {T : TypeId} {B b : Nat} {X X' S : Nat → Prop} {xs : List Int} {w w' : World} (h : JB T B X b xs w) (hf : Fr S w w') (hS : ∀ k, S k → X k) (hX : ∀ k, X' k → X k ∨ w.heap.size ≤ k) (hl : ∀ k, X' k → k < w'.heap.size) : JB T B X' b xs w' := by
  obtain ⟨v, h1, h2, h3⟩ := h.out
  have hlt := lt_of h1
  refine ⟨⟨v, hf.heap h1 (fun e => h.ne (hS _ e)), hf.own h2 (fun k hk e => h3 k hk (hS _ e)), fun k hk e => ?_⟩, h.ge, fun e => ?_, hl⟩
  · have := own_lt h2 k hk
    rcases hX k e with e | e
    · exact h3 k hk e
    · omega
  · rcases hX b e with e | e
    · exact h.ne e
    · omega
def XS (X : Nat → Prop) (sc : Nat) (v : Value) : Nat → Prop := fun k => X k ∨ k = sc ∨ v.ownBlock = some k
structure JS (B : Nat) (X : Nat → Prop) (b sc : Nat) (xs : List Int) (w : World) : Prop where
  out : ∃ v zs, w.heap[sc]? = some (.cells #[v] 22 (0, 0)) ∧ w.ownsRow B 5 1 v zs.length (nums .u8 zs) ∧ (∀ k, v.ownBlock = some k → ¬ X k) ∧ JB 150 B (XS X sc v) b xs w
  ge : B ≤ sc
  ne : ¬ X sc
def WrS (B : Nat) (X : Nat → Prop) (b sc : Nat) (ys : List Int) (w w' : World) : Prop := JS B X b sc ys w' ∧ Fr (fun k => B ≤ k ∧ ¬ X k) w w'
namespace JS
variable {B b sc : Nat} {X : Nat → Prop} {xs ys : List Int} {w w1 w' : World}
theorem low (h : JS B X b sc xs w) : ∀ k, X k → k < w.heap.size := fun k hk => by obtain ⟨v, zs, _, _, _, hJ⟩ := h.out; exact hJ.low k (.inl hk)
theorem lts (h : JS B X b sc xs w) : sc < w.heap.size := by obtain ⟨v, zs, h1, _⟩ := h.out; exact lt_of h1
theorem leB (h : JS B X b sc xs w) : B ≤ w.heap.size := by have := h.lts; have := h.ge; omega
/-- What a writer to the buffer leaves, that knows the scratch as a thing that stays. -/
theorem wrote {v : Value} {zs : List Int} (h : JS B X b sc xs w) (h1 : w.heap[sc]? = some (.cells #[v] 22 (0, 0))) (h2 : w.ownsRow B 5 1 v zs.length (nums .u8 zs)) (h3 : ∀ k, v.ownBlock = some k → ¬ X k) (hw : Wrote 150 B (XS X sc v) b ys w w') : WrS B X b sc ys w w' :=
  ⟨⟨⟨v, zs, hw.2.heap h1 (fun e => e.2 (.inr (.inl rfl))), hw.2.own h2 (fun k hk e => e.2 (.inr (.inr hk))), h3, hw.1⟩, h.ge, h.ne⟩, hw.2.mono (fun k _ e => ⟨e.1, fun hx => e.2 (.inl hx)⟩)⟩
theorem frX {S : Nat → Prop} (h : JS B X b sc xs w) (hf : Fr S w w') (hS : ∀ k, S k → X k) : JS B X b sc xs w' := by
  obtain ⟨v, zs, h1, h2, h3, hJ⟩ := h.out
  exact ⟨⟨v, zs, hf.heap h1 (fun e => h.ne (hS _ e)), hf.own h2 (fun k hk e => h3 k hk (hS _ e)), h3, hJ.frX hf (fun k hk => .inl (hS k hk))⟩, h.ge, h.ne⟩
theorem calm (h : JS B X b sc xs w) (hb : Below w.heap.size w w') : JS B X b sc xs w' := h.frX (Fr.of_below (S := fun _ => False) hb) (fun _ h => h.elim)
theorem re {X' : Nat → Prop} (h : JS B X b sc xs w) (hX : ∀ k, X' k → X k ∨ w.heap.size ≤ k) (hl : ∀ k, X' k → k < w'.heap.size) (hb : Below w.heap.size w w') : JS B X' b sc xs w' := by
  obtain ⟨v, zs, h1, h2, h3, hJ⟩ := h.out
  have hlt := lt_of h1
  refine ⟨⟨v, zs, heap_below hb h1, (Fr.of_below (S := fun _ => False) hb).own h2 (fun _ _ h => h), fun k hk e => ?_, hJ.trade (Fr.of_below (S := fun _ => False) hb) (fun _ h => h.elim) (fun k hk => ?_) (fun k hk => ?_)⟩, h.ge, fun e => ?_⟩
  · have := own_lt h2 k hk
    rcases hX k e with e | e
    · exact h3 k hk e
    · omega
  · rcases hk with hk | hk | hk
    · exact (hX k hk).imp .inl id
    · exact .inl (.inr (.inl hk))
    · exact .inl (.inr (.inr hk))
  · rcases hk with hk | hk | hk
    · exact hl k hk
    · have := hb.size; omega
    · have := own_lt h2 k hk; have := hb.size; omega
  · rcases hX sc e with e | e
    · exact h.ne e
    · omega
theorem also (h : JS B X b sc xs w) (hb : Below w.heap.size w w') {g : Nat} (hg : w.heap.size ≤ g) (hg' : g < w'.heap.size) : JS B (fun k => X k ∨ k = g) b sc xs w' :=
  h.re (fun k hk => hk.imp id (fun e => by omega)) (fun k hk => by rcases hk with e | e; have := h.low k e; have := hb.size; omega; omega) hb
theorem less {X' : Nat → Prop} (h : JS B X b sc xs w) (hX : ∀ k, X' k → X k) : JS B X' b sc xs w := by
  obtain ⟨v, zs, h1, h2, h3, hJ⟩ := h.out
  exact ⟨⟨v, zs, h1, h2, fun k hk e => h3 k hk (hX k e), hJ.less (fun k hk => hk.imp (hX k) id)⟩, h.ge, fun e => h.ne (hX sc e)⟩
theorem plus {T' : TypeId} {ob : Nat} {cs : Array Value} {z : Nat × Nat} (h : JS B X b sc xs w) (ho : w.heap[ob]? = some (.cells cs T' z)) (h5 : T' ≠ 5) (hT : T' ≠ 150) (h22 : T' ≠ 22) : JS B (fun k => X k ∨ k = ob) b sc xs w := by
  obtain ⟨v, zs, h1, h2, h3, hJ⟩ := h.out
  have hs : sc ≠ ob := fun e => by
    subst e
    rw [h1] at ho
    injection ho with ho
    injection ho with _ ho _
    exact h22 ho.symm
  refine ⟨⟨v, zs, h1, h2, fun k hk e => ?_, (hJ.plus ho h5 hT).less (fun k hk => ?_)⟩, h.ge, fun e => e.elim h.ne hs⟩
  · rcases e with e | e
    · exact h3 k hk e
    · exact own_ne h5 ho h2 k hk e
  · rcases hk with (hk | hk) | hk | hk
    · exact .inl (.inl hk)
    · exact .inr hk
    · exact .inl (.inr (.inl hk))
    · exact .inl (.inr (.inr hk))
end JS
theorem WrS.from {B b sc : Nat} {X X' : Nat → Prop} {xs : List Int} {w w1 w' : World} (hb : Below w.heap.size w w1) (h : WrS B X' b sc xs w1 w') (hX : ∀ k, X k → X' k) : WrS B X b sc xs w w' :=
  ⟨h.1.less hX, (Fr.of_below (S := fun k => B ≤ k ∧ ¬ X k) hb).trans h.2 (fun k _ hs => ⟨hs.1, fun e => hs.2 (hX k e)⟩)⟩
/-- The scratch's row is another one now, that an append made; the buffer stays. -/
theorem JS.scratch {B b sc : Nat} {X : Nat → Prop} {xs zs' : List Int} {w w1 : World} {v v1 : Value} {zs : List Int} (h : JS B X b sc xs w) (h1 : w.heap[sc]? = some (.cells #[v] 22 (0, 0))) (h2 : w.ownsRow B 5 1 v zs.length (nums .u8 zs)) (h3 : ∀ k, v.ownBlock = some k → ¬ X k) (hJ : JB 150 B (XS X sc v) b xs w)
    (ho : w1.ownsRow B 5 1 v1 zs'.length (nums .u8 zs')) (hF : Fr (fun k => v.ownBlock = some k) w w1) (hat : v1.ownBlock = v.ownBlock ∨ ∃ b, v1.ownBlock = some b ∧ w.heap.size ≤ b) :
    w1.heap[sc]? = some (.cells #[v] 22 (0, 0)) ∧ (w1.setCell ⟨sc, 0, none⟩ v1).heap[sc]? = some (.cells #[v1] 22 (0, 0)) ∧ (w1.setCell ⟨sc, 0, none⟩ v1).ownsRow B 5 1 v1 zs'.length (nums .u8 zs') ∧ (∀ k, v1.ownBlock = some k → ¬ X k) ∧ JB 150 B (XS X sc v1) b xs (w1.setCell ⟨sc, 0, none⟩ v1) ∧ Fr (fun k => B ≤ k ∧ ¬ X k) w (w1.setCell ⟨sc, 0, none⟩ v1) := by
  have hsv : ∀ k, v.ownBlock = some k → k ≠ sc := own_ne (by decide) h1 h2
  have hs1 : w1.heap[sc]? = some (.cells #[v] 22 (0, 0)) := hF.heap h1 (fun e => hsv _ e rfl)
  have hsv1 : ∀ k, v1.ownBlock = some k → k ≠ sc := own_ne (by decide) hs1 ho
  have hF2 : Fr (fun k => v.ownBlock = some k ∨ k = sc) w (w1.setCell ⟨sc, 0, none⟩ v1) := (hF.mono (fun k _ h => .inl h)).setCell (.inl (.inr rfl)) v1
  have hsz : (w1.setCell ⟨sc, 0, none⟩ v1).heap.size = w1.heap.size := by simp [World.setCell]
  have hlow := h.low
  refine ⟨hs1, by rw [heap_set hs1]; rfl, own_set (p := ⟨sc, 0, none⟩) ho hsv1 v1, fun k hk e => ?_, hJ.trade hF2 (fun k hk => ?_) (fun k hk => ?_) (fun k hk => ?_), hF2.mono (fun k _ hk => ?_)⟩
  · rcases hat with ha | ⟨g, ha, hg⟩
    · exact h3 k (ha ▸ hk) e
    · rw [ha] at hk
      injection hk with hk
      have := hlow k e
      omega
  · rcases hk with hk | hk
    · exact .inr (.inr hk)
    · exact .inr (.inl hk)
  · rcases hk with hk | hk | hk
    · exact .inl (.inl hk)
    · exact .inl (.inr (.inl hk))
    · rcases hat with ha | ⟨g, ha, hg⟩
      · exact .inl (.inr (.inr (ha ▸ hk)))
      · rw [ha] at hk
        injection hk with hk
        exact .inr (by omega)
  · rw [hsz]
    rcases hk with hk | hk | hk
    · have := hlow k hk; have := hF.size; omega
    · have := lt_of hs1; omega
    · exact own_lt ho k hk
  · rcases hk with hk | hk
    · exact ⟨own_base h2 k hk, h3 k hk⟩
    · exact ⟨by have := h.ge; omega, by rw [hk]; exact h.ne⟩
theorem itoaB_len (i : Int) (h0 : -9223372036854775808 ≤ i) (h1 : i ≤ 9223372036854775807) : (itoaB i).length ≤ 25 := by
  by_cases hneg : i < 0
  · obtain ⟨u, rfl⟩ : ∃ u : Nat, i = -(u : Int) := ⟨i.natAbs, by omega⟩
    rw [itoaB_neg u (by omega), List.length_cons]
    have := digs_len u; have := digs_le u (by omega); omega
  · obtain ⟨u, rfl⟩ : ∃ u : Nat, i = u := ⟨i.toNat, by omega⟩
    rw [itoaB_nn u]
    have := digs_len u; have := digs_le u (by omega); omega
set_option maxHeartbeats 8000000 in
set_option maxRecDepth 100000 in
theorem js87 {B b sc : Nat} {X : Nat → Prop} {xs : List Int} (t : Bool) (w : World) (h : JS B X b sc xs w) (hl : xs.length + 25 ≤ 140737488355328) :
    Calls Tryz.prog 87 #[.agg #[.pointer (some ⟨b, 0, none⟩), .pointer (some ⟨sc, 0, none⟩)], .bool t] w fun e w' => e = .returned (.tuple #[]) ∧ WrS B X b sc (xs ++ bytesOf (if t then ⟨#[116, 114, 117, 101]⟩ else ⟨#[102, 97, 108, 115, 101]⟩)) w w' := by
  obtain ⟨ds, hds⟩ : ∃ ds, bytesOf (if t then ⟨#[116, 114, 117, 101]⟩ else ⟨#[102, 97, 108, 115, 101]⟩) = ds := ⟨_, rfl⟩
  have hdl : ds.length ≤ 25 := by rw [← hds]; cases t <;> simp [bytesOf]
  rw [hds]
  replace hds := Aside0.mk hds
  have hb0 := below_alloc (Below.refl w.heap.size w) (.cells #[.pointer (some ⟨b, 0, none⟩), .pointer (some ⟨sc, 0, none⟩)] 88)
  have hn0 := heap_new w (.cells #[.pointer (some ⟨b, 0, none⟩), .pointer (some ⟨sc, 0, none⟩)] 88)
  have hJ0 : JS B (fun k => X k ∨ k = w.heap.size) b sc xs (w.alloc (.cells #[.pointer (some ⟨b, 0, none⟩), .pointer (some ⟨sc, 0, none⟩)] 88)) := h.also hb0 (Nat.le_refl _) (by simp)
  have hBB := h.leB
  skip
  obtain ⟨v, zs, h1, h2, h3, hJ⟩ := hJ0.out
  obtain ⟨A, c, rfl⟩ := own_slice h2
  have hc0 := cell_of h1
  have hcut := own_cut0 h2
  have hcc : zs.length ≤ c := by
    rcases h2.2 with ⟨e1, e2⟩ | ⟨g, cap, cur, e1, _, _, e4, _⟩
    · injection e1 with _ e1 _; omega
    · injection e1 with _ _ e1; omega
  replace h := Aside0.mk h; replace hb0 := Aside0.mk hb0; replace hJ0 := Aside0.mk hJ0; replace h1 := Aside0.mk h1; replace h2 := Aside0.mk h2; replace h3 := Aside0.mk h3; replace hJ := Aside0.mk hJ; replace hcut := Aside0.mk hcut
  go_enter Tryz.func87, Tryz.ntmps87
  go_wp2_with fail
  obtain ⟨nb, hnb⟩ : ∃ nb, w.heap.size = nb := ⟨_, rfl⟩
  rw [hnb] at hn0 hJ0 h3 hJ ⊢
  have n0 := cell_at hn0 0; have n1 := cell_at hn0 1
  simp at n0 n1
  generalize w.alloc (.cells #[.pointer (some ⟨b, 0, none⟩), .pointer (some ⟨sc, 0, none⟩)] 88) = w1 at *
  replace hn0 := Aside0.mk hn0
  refine wp_region_noPanic ?_
  refine wp_region_held_drew (S := fun w' => w'.cell? ⟨nb, 0, none⟩ = some (.pointer (some ⟨b, 0, none⟩)) ∧ w'.cell? ⟨nb, 1, none⟩ = some (.pointer (some ⟨sc, 0, none⟩))) (by kernel_rfl) ⟨n0, n1⟩ (fun hHeld => ?_)
  refine tk 0 ?_
  refine tk 1 ?_
  refine tk 2 ?_
  refine tk 3 ?_
  refine tk 4 ?_
  refine tk 7 ?_
  refine rd1 5 (fun K hK => ?_)
  go_simp
  refine hK.out _ _ ⟨n0, n1⟩ (fun hHeld => ?_)
  clear hK K
  try simp only [Act.put, List.setIfInBounds_toArray, List.set_cons_zero, List.set_cons_succ]
  refine tk 6 (v := .slice A 0 c) ?_ (hy := fun w _ => ?_)
  rotate_left
  · go_simp
  refine rd1 8 (fun K hK => ?_)
  go_simp
  refine (app151 (B := B) (xs := []) (.slice A 0 c) t w1.drew (by exact hcut.out) (by have := hb0.out.size; simp; omega) (by simp)).mono ?_
  rintro e w2 ⟨v1, rfl, ho1, hF1, hat1⟩
  simp only [List.nil_append, hds.out] at ho1
  obtain ⟨A1, c1, rfl⟩ := own_slice ho1
  rw [own_cutB (n := zs.length)] at hF1 hat1
  obtain ⟨hs2, hs3, ho3, hX3, hJ3, hF3⟩ := hJ0.out.scratch h1.out h2.out h3.out hJ.out ho1 (undrewF hF1) hat1
  have hn2 := (undrewF hF1).heap hn0.out (fun e => h3.out _ e (.inr rfl))
  have hn3 := hF3.heap hn0.out (fun e => e.2 (.inr rfl))
  have hc2 := cell_of hs2
  have hfz := free_of hs2 0
  have m0 := cell_at hn2 0; have m1 := cell_at hn2 1
  simp at m0 m1
  go_simp
  refine hK.out _ _ ⟨m0, m1⟩ (fun hHeld => ?_)
  clear hK K
  try simp only [Act.put, List.setIfInBounds_toArray, List.set_cons_zero, List.set_cons_succ]
  refine tk 9 ?_
  refine rd1 10 (fun K hK => ?_)
  go_simp
  have hFx := Aside0.mk ((Fr.of_below (S := fun k => B ≤ k ∧ ¬ (X k ∨ k = nb)) hb0.out).trans hF3 (fun _ _ h => h))
  replace hs3 := Aside0.mk hs3; replace ho3 := Aside0.mk ho3; replace hX3 := Aside0.mk hX3; replace hJ3 := Aside0.mk hJ3; replace hn3 := Aside0.mk hn3
  clear hs2 hF3 hat1 ho1 hF1 hc2 hfz m0 m1 hn2 hJ hJ0 hcut h2 h1 hn0 n0 n1 hc0
  generalize w2.setCell ⟨sc, 0, none⟩ (.slice A1 ds.length c1) = w3 at *
  have m0 := cell_at hn3.out 0; have m1 := cell_at hn3.out 1
  simp at m0 m1
  have hc3 := cell_of hs3.out
  refine hK.out _ _ ⟨m0, m1⟩ (fun hHeld => ?_)
  clear hK K
  try simp only [Act.put, List.setIfInBounds_toArray, List.set_cons_zero, List.set_cons_succ]
  refine wpAnyH_done (by kernel_rfl) ?_ _
  refine NoPanic.normal ?_
  clear hHeld
  go_wp2_with fail
  refine wp_region_noPanic ?_
  refine wp_region_held_drew (S := fun w' => w'.cell? ⟨nb, 0, none⟩ = some (.pointer (some ⟨b, 0, none⟩)) ∧ w'.cell? ⟨nb, 1, none⟩ = some (.pointer (some ⟨sc, 0, none⟩)) ∧ w'.cell? ⟨sc, 0, none⟩ = some (.slice A1 ds.length c1)) (by kernel_rfl) ⟨m0, m1, hc3⟩ (fun hHeld => ?_)
  refine tk 0 ?_
  refine tk 1 ?_
  refine tk 2 ?_
  refine tk 3 ?_
  refine tk 4 ?_
  refine tk 5 ?_
  obtain ⟨A2, c2, he, hR1⟩ := own_reads ho3.out
  injection he with e1 _ e2
  subst e1 e2
  refine rd1 6 (fun K hK => ?_)
  go_simp
  refine (jw A1 ds.length c1 ds w3.drew (hJ3.out.calm (drewB _)) (by exact hR1) (by omega)).mono ?_
  rintro e w4 ⟨rfl, hw4⟩
  replace hw4 : Wrote 150 B (XS (fun k => X k ∨ k = nb) sc (.slice A1 ds.length c1)) b (xs ++ ds) w3 w4 := ⟨hw4.1, undrewF hw4.2⟩
  have hJS4 := Aside0.mk ((⟨⟨⟨_, ds, hw4.2.heap hs3.out (fun e => e.2 (.inr (.inl rfl))), hw4.2.own ho3.out (fun k hk e => e.2 (.inr (.inr hk))), fun k hk e => hX3.out k hk (.inl e), hw4.1.less (fun k hk => hk.imp (fun e => .inl e) id)⟩, h.out.ge, h.out.ne⟩, hFx.out.trans (hw4.2.mono (S2 := fun k => B ≤ k ∧ ¬ (X k ∨ k = nb)) (fun k _ e => ⟨e.1, fun hx => e.2 (.inl hx)⟩)) (fun _ _ h => h) |>.mono (fun k _ e => ⟨e.1, fun hx => e.2 (.inl hx)⟩)⟩ : WrS B X b sc (xs ++ ds) w w4))
  have hn4 := hw4.2.heap hn3.out (fun e => e.2 (.inl (.inr rfl)))
  have hs4 := hw4.2.heap hs3.out (fun e => e.2 (.inr (.inl rfl)))
  have hc4 := cell_of hs4
  have q0 := cell_at hn4 0; have q1 := cell_at hn4 1
  simp at q0 q1
  clear hw4
  go_simp
  refine hK.out _ _ ⟨q0, q1, hc4⟩ (fun hHeld => ?_)
  clear hK K
  try simp only [Act.put, List.setIfInBounds_toArray, List.set_cons_zero, List.set_cons_succ]
  refine wpAnyH_done (by kernel_rfl) ?_ _
  refine NoPanic.normal ?_
  clear hHeld
  go_wp2
  refine bodyPost_end (results_none rfl _ _ _) rfl ?_
  exact ⟨rfl, hJS4.out⟩
set_option maxHeartbeats 8000000 in
set_option maxRecDepth 100000 in
theorem js91 {B b sc : Nat} {X : Nat → Prop} {xs : List Int} (i : Int) (hi0 : -9223372036854775808 ≤ i) (hi1 : i ≤ 9223372036854775807) (w : World) (h : JS B X b sc xs w) (htab : ∀ w1, Fr (fun k => B ≤ k) w w1 → Lib.TabIs Tryz.prog w1 "internal/strconv.uint64pow10" .u64 Lib.pow10Tab) (hl : xs.length + 25 ≤ 140737488355328) :
    Calls Tryz.prog 91 #[.agg #[.pointer (some ⟨b, 0, none⟩), .pointer (some ⟨sc, 0, none⟩)], .int .i64 i] w fun e w' => e = .returned (.tuple #[]) ∧ WrS B X b sc (xs ++ itoaB i) w w' := by
  obtain ⟨ds, hds⟩ : ∃ ds, itoaB i = ds := ⟨_, rfl⟩
  have hdl : ds.length ≤ 25 := by rw [← hds]; exact itoaB_len i hi0 hi1
  rw [hds]
  replace hds := Aside0.mk hds
  have hb0 := below_alloc (Below.refl w.heap.size w) (.cells #[.pointer (some ⟨b, 0, none⟩), .pointer (some ⟨sc, 0, none⟩)] 88)
  have hn0 := heap_new w (.cells #[.pointer (some ⟨b, 0, none⟩), .pointer (some ⟨sc, 0, none⟩)] 88)
  have hJ0 : JS B (fun k => X k ∨ k = w.heap.size) b sc xs (w.alloc (.cells #[.pointer (some ⟨b, 0, none⟩), .pointer (some ⟨sc, 0, none⟩)] 88)) := h.also hb0 (Nat.le_refl _) (by simp)
  have hBB := h.leB
  replace htab := Aside0.mk htab
  obtain ⟨v, zs, h1, h2, h3, hJ⟩ := hJ0.out
  obtain ⟨A, c, rfl⟩ := own_slice h2
  have hc0 := cell_of h1
  have hcut := own_cut0 h2
  have hcc : zs.length ≤ c := by
    rcases h2.2 with ⟨e1, e2⟩ | ⟨g, cap, cur, e1, _, _, e4, _⟩
    · injection e1 with _ e1 _; omega
    · injection e1 with _ _ e1; omega
  replace h := Aside0.mk h; replace hb0 := Aside0.mk hb0; replace hJ0 := Aside0.mk hJ0; replace h1 := Aside0.mk h1; replace h2 := Aside0.mk h2; replace h3 := Aside0.mk h3; replace hJ := Aside0.mk hJ; replace hcut := Aside0.mk hcut
  go_enter Tryz.func91, Tryz.ntmps91
  go_wp2_with fail
  obtain ⟨nb, hnb⟩ : ∃ nb, w.heap.size = nb := ⟨_, rfl⟩
  rw [hnb] at hn0 hJ0 h3 hJ ⊢
  have n0 := cell_at hn0 0; have n1 := cell_at hn0 1
  simp at n0 n1
  generalize w.alloc (.cells #[.pointer (some ⟨b, 0, none⟩), .pointer (some ⟨sc, 0, none⟩)] 88) = w1 at *
  replace hn0 := Aside0.mk hn0
  refine wp_region_noPanic ?_
  refine wp_region_held_drew (S := fun w' => w'.cell? ⟨nb, 0, none⟩ = some (.pointer (some ⟨b, 0, none⟩)) ∧ w'.cell? ⟨nb, 1, none⟩ = some (.pointer (some ⟨sc, 0, none⟩))) (by kernel_rfl) ⟨n0, n1⟩ (fun hHeld => ?_)
  refine tk 0 ?_
  refine tk 1 ?_
  refine tk 2 ?_
  refine tk 3 ?_
  refine tk 4 ?_
  refine tk 7 ?_
  refine rd1 5 (fun K hK => ?_)
  go_simp
  refine hK.out _ _ ⟨n0, n1⟩ (fun hHeld => ?_)
  clear hK K
  try simp only [Act.put, List.setIfInBounds_toArray, List.set_cons_zero, List.set_cons_succ]
  refine tk 6 (v := .slice A 0 c) ?_ (hy := fun w _ => ?_)
  rotate_left
  · go_simp
  refine rd1 8 (fun K hK => ?_)
  go_simp
  refine (app153 (B := B) (xs := []) (.slice A 0 c) i hi0 hi1 w1.drew (by exact hcut.out) (by have := hb0.out.size; simp; omega) (by simp) (fun w2 hF => htab.out w2 ((Fr.of_below (S := fun k => B ≤ k) hb0.out).trans (Fr.trans (Fr.of_below (S := fun k => B ≤ k) (drewB w1)) hF (fun _ _ h => h)) (fun _ _ h => h)))).mono ?_
  rintro e w2 ⟨v1, rfl, ho1, hF1, hat1⟩
  simp only [List.nil_append, hds.out] at ho1
  obtain ⟨A1, c1, rfl⟩ := own_slice ho1
  rw [own_cutB (n := zs.length)] at hF1 hat1
  obtain ⟨hs2, hs3, ho3, hX3, hJ3, hF3⟩ := hJ0.out.scratch h1.out h2.out h3.out hJ.out ho1 (undrewF hF1) hat1
  have hn2 := (undrewF hF1).heap hn0.out (fun e => h3.out _ e (.inr rfl))
  have hn3 := hF3.heap hn0.out (fun e => e.2 (.inr rfl))
  have hc2 := cell_of hs2
  have hfz := free_of hs2 0
  have m0 := cell_at hn2 0; have m1 := cell_at hn2 1
  simp at m0 m1
  go_simp
  refine hK.out _ _ ⟨m0, m1⟩ (fun hHeld => ?_)
  clear hK K
  try simp only [Act.put, List.setIfInBounds_toArray, List.set_cons_zero, List.set_cons_succ]
  refine tk 9 ?_
  refine rd1 10 (fun K hK => ?_)
  go_simp
  have hFx := Aside0.mk ((Fr.of_below (S := fun k => B ≤ k ∧ ¬ (X k ∨ k = nb)) hb0.out).trans hF3 (fun _ _ h => h))
  replace hs3 := Aside0.mk hs3; replace ho3 := Aside0.mk ho3; replace hX3 := Aside0.mk hX3; replace hJ3 := Aside0.mk hJ3; replace hn3 := Aside0.mk hn3
  clear hs2 hF3 hat1 ho1 hF1 hc2 hfz m0 m1 hn2 hJ hJ0 hcut h2 h1 hn0 n0 n1 hc0
  generalize w2.setCell ⟨sc, 0, none⟩ (.slice A1 ds.length c1) = w3 at *
  have m0 := cell_at hn3.out 0; have m1 := cell_at hn3.out 1
  simp at m0 m1
  have hc3 := cell_of hs3.out
  refine hK.out _ _ ⟨m0, m1⟩ (fun hHeld => ?_)
  clear hK K
  try simp only [Act.put, List.setIfInBounds_toArray, List.set_cons_zero, List.set_cons_succ]
  refine wpAnyH_done (by kernel_rfl) ?_ _
  refine NoPanic.normal ?_
  clear hHeld
  go_wp2_with fail
  refine wp_region_noPanic ?_
  refine wp_region_held_drew (S := fun w' => w'.cell? ⟨nb, 0, none⟩ = some (.pointer (some ⟨b, 0, none⟩)) ∧ w'.cell? ⟨nb, 1, none⟩ = some (.pointer (some ⟨sc, 0, none⟩)) ∧ w'.cell? ⟨sc, 0, none⟩ = some (.slice A1 ds.length c1)) (by kernel_rfl) ⟨m0, m1, hc3⟩ (fun hHeld => ?_)
  refine tk 0 ?_
  refine tk 1 ?_
  refine tk 2 ?_
  refine tk 3 ?_
  refine tk 4 ?_
  refine tk 5 ?_
  obtain ⟨A2, c2, he, hR1⟩ := own_reads ho3.out
  injection he with e1 _ e2
  subst e1 e2
  refine rd1 6 (fun K hK => ?_)
  go_simp
  refine (jw A1 ds.length c1 ds w3.drew (hJ3.out.calm (drewB _)) (by exact hR1) (by omega)).mono ?_
  rintro e w4 ⟨rfl, hw4⟩
  replace hw4 : Wrote 150 B (XS (fun k => X k ∨ k = nb) sc (.slice A1 ds.length c1)) b (xs ++ ds) w3 w4 := ⟨hw4.1, undrewF hw4.2⟩
  have hJS4 := Aside0.mk ((⟨⟨⟨_, ds, hw4.2.heap hs3.out (fun e => e.2 (.inr (.inl rfl))), hw4.2.own ho3.out (fun k hk e => e.2 (.inr (.inr hk))), fun k hk e => hX3.out k hk (.inl e), hw4.1.less (fun k hk => hk.imp (fun e => .inl e) id)⟩, h.out.ge, h.out.ne⟩, hFx.out.trans (hw4.2.mono (S2 := fun k => B ≤ k ∧ ¬ (X k ∨ k = nb)) (fun k _ e => ⟨e.1, fun hx => e.2 (.inl hx)⟩)) (fun _ _ h => h) |>.mono (fun k _ e => ⟨e.1, fun hx => e.2 (.inl hx)⟩)⟩ : WrS B X b sc (xs ++ ds) w w4))
  have hn4 := hw4.2.heap hn3.out (fun e => e.2 (.inl (.inr rfl)))
  have hs4 := hw4.2.heap hs3.out (fun e => e.2 (.inr (.inl rfl)))
  have hc4 := cell_of hs4
  have q0 := cell_at hn4 0; have q1 := cell_at hn4 1
  simp at q0 q1
  clear hw4
  go_simp
  refine hK.out _ _ ⟨q0, q1, hc4⟩ (fun hHeld => ?_)
  clear hK K
  try simp only [Act.put, List.setIfInBounds_toArray, List.set_cons_zero, List.set_cons_succ]
  refine wpAnyH_done (by kernel_rfl) ?_ _
  refine NoPanic.normal ?_
  clear hHeld
  go_wp2
  refine bodyPost_end (results_none rfl _ _ _) rfl ?_
  exact ⟨rfl, hJS4.out⟩
set_option maxHeartbeats 8000000 in
set_option maxRecDepth 100000 in
theorem js92 {B b sc : Nat} {X : Nat → Prop} {xs : List Int} (u : Nat) (hu : u < 18446744073709551616) (w : World) (h : JS B X b sc xs w) (htab : ∀ w1, Fr (fun k => B ≤ k) w w1 → Lib.TabIs Tryz.prog w1 "internal/strconv.uint64pow10" .u64 Lib.pow10Tab) (hl : xs.length + 25 ≤ 140737488355328) :
    Calls Tryz.prog 92 #[.agg #[.pointer (some ⟨b, 0, none⟩), .pointer (some ⟨sc, 0, none⟩)], .int .u64 u] w fun e w' => e = .returned (.tuple #[]) ∧ WrS B X b sc (xs ++ bytesOf ⟨(Lib.decDigits u).toArray⟩) w w' := by
  obtain ⟨ds, hds⟩ : ∃ ds, bytesOf ⟨(Lib.decDigits u).toArray⟩ = ds := ⟨_, rfl⟩
  have hdl : ds.length ≤ 25 := by rw [← hds]; (have := digs_len u; have := digs_le u hu; omega)
  rw [hds]
  replace hds := Aside0.mk hds
  have hb0 := below_alloc (Below.refl w.heap.size w) (.cells #[.pointer (some ⟨b, 0, none⟩), .pointer (some ⟨sc, 0, none⟩)] 88)
  have hn0 := heap_new w (.cells #[.pointer (some ⟨b, 0, none⟩), .pointer (some ⟨sc, 0, none⟩)] 88)
  have hJ0 : JS B (fun k => X k ∨ k = w.heap.size) b sc xs (w.alloc (.cells #[.pointer (some ⟨b, 0, none⟩), .pointer (some ⟨sc, 0, none⟩)] 88)) := h.also hb0 (Nat.le_refl _) (by simp)
  have hBB := h.leB
  replace htab := Aside0.mk htab
  obtain ⟨v, zs, h1, h2, h3, hJ⟩ := hJ0.out
  obtain ⟨A, c, rfl⟩ := own_slice h2
  have hc0 := cell_of h1
  have hcut := own_cut0 h2
  have hcc : zs.length ≤ c := by
    rcases h2.2 with ⟨e1, e2⟩ | ⟨g, cap, cur, e1, _, _, e4, _⟩
    · injection e1 with _ e1 _; omega
    · injection e1 with _ _ e1; omega
  replace h := Aside0.mk h; replace hb0 := Aside0.mk hb0; replace hJ0 := Aside0.mk hJ0; replace h1 := Aside0.mk h1; replace h2 := Aside0.mk h2; replace h3 := Aside0.mk h3; replace hJ := Aside0.mk hJ; replace hcut := Aside0.mk hcut
  go_enter Tryz.func92, Tryz.ntmps92
  go_wp2_with fail
  obtain ⟨nb, hnb⟩ : ∃ nb, w.heap.size = nb := ⟨_, rfl⟩
  rw [hnb] at hn0 hJ0 h3 hJ ⊢
  have n0 := cell_at hn0 0; have n1 := cell_at hn0 1
  simp at n0 n1
  generalize w.alloc (.cells #[.pointer (some ⟨b, 0, none⟩), .pointer (some ⟨sc, 0, none⟩)] 88) = w1 at *
  replace hn0 := Aside0.mk hn0
  refine wp_region_noPanic ?_
  refine wp_region_held_drew (S := fun w' => w'.cell? ⟨nb, 0, none⟩ = some (.pointer (some ⟨b, 0, none⟩)) ∧ w'.cell? ⟨nb, 1, none⟩ = some (.pointer (some ⟨sc, 0, none⟩))) (by kernel_rfl) ⟨n0, n1⟩ (fun hHeld => ?_)
  refine tk 0 ?_
  refine tk 1 ?_
  refine tk 2 ?_
  refine tk 3 ?_
  refine tk 4 ?_
  refine tk 7 ?_
  refine rd1 5 (fun K hK => ?_)
  go_simp
  refine hK.out _ _ ⟨n0, n1⟩ (fun hHeld => ?_)
  clear hK K
  try simp only [Act.put, List.setIfInBounds_toArray, List.set_cons_zero, List.set_cons_succ]
  refine tk 6 (v := .slice A 0 c) ?_ (hy := fun w _ => ?_)
  rotate_left
  · go_simp
  refine rd1 8 (fun K hK => ?_)
  go_simp
  refine (app154 (B := B) (xs := []) (.slice A 0 c) u hu w1.drew (by exact hcut.out) (by have := hb0.out.size; simp; omega) (by simp) (htab.out _ ((Fr.of_below (S := fun k => B ≤ k) hb0.out).trans (Fr.of_below (S := fun k => B ≤ k) (drewB w1)) (fun _ _ h => h)))).mono ?_
  rintro e w2 ⟨v1, rfl, ho1, hF1, hat1⟩
  simp only [List.nil_append, hds.out] at ho1
  obtain ⟨A1, c1, rfl⟩ := own_slice ho1
  rw [own_cutB (n := zs.length)] at hF1 hat1
  obtain ⟨hs2, hs3, ho3, hX3, hJ3, hF3⟩ := hJ0.out.scratch h1.out h2.out h3.out hJ.out ho1 (undrewF hF1) hat1
  have hn2 := (undrewF hF1).heap hn0.out (fun e => h3.out _ e (.inr rfl))
  have hn3 := hF3.heap hn0.out (fun e => e.2 (.inr rfl))
  have hc2 := cell_of hs2
  have hfz := free_of hs2 0
  have m0 := cell_at hn2 0; have m1 := cell_at hn2 1
  simp at m0 m1
  go_simp
  refine hK.out _ _ ⟨m0, m1⟩ (fun hHeld => ?_)
  clear hK K
  try simp only [Act.put, List.setIfInBounds_toArray, List.set_cons_zero, List.set_cons_succ]
  refine tk 9 ?_
  refine rd1 10 (fun K hK => ?_)
  go_simp
  have hFx := Aside0.mk ((Fr.of_below (S := fun k => B ≤ k ∧ ¬ (X k ∨ k = nb)) hb0.out).trans hF3 (fun _ _ h => h))
  replace hs3 := Aside0.mk hs3; replace ho3 := Aside0.mk ho3; replace hX3 := Aside0.mk hX3; replace hJ3 := Aside0.mk hJ3; replace hn3 := Aside0.mk hn3
  clear hs2 hF3 hat1 ho1 hF1 hc2 hfz m0 m1 hn2 hJ hJ0 hcut h2 h1 hn0 n0 n1 hc0
  generalize w2.setCell ⟨sc, 0, none⟩ (.slice A1 ds.length c1) = w3 at *
  have m0 := cell_at hn3.out 0; have m1 := cell_at hn3.out 1
  simp at m0 m1
  have hc3 := cell_of hs3.out
  refine hK.out _ _ ⟨m0, m1⟩ (fun hHeld => ?_)
  clear hK K
  try simp only [Act.put, List.setIfInBounds_toArray, List.set_cons_zero, List.set_cons_succ]
  refine wpAnyH_done (by kernel_rfl) ?_ _
  refine NoPanic.normal ?_
  clear hHeld
  go_wp2_with fail
  refine wp_region_noPanic ?_
  refine wp_region_held_drew (S := fun w' => w'.cell? ⟨nb, 0, none⟩ = some (.pointer (some ⟨b, 0, none⟩)) ∧ w'.cell? ⟨nb, 1, none⟩ = some (.pointer (some ⟨sc, 0, none⟩)) ∧ w'.cell? ⟨sc, 0, none⟩ = some (.slice A1 ds.length c1)) (by kernel_rfl) ⟨m0, m1, hc3⟩ (fun hHeld => ?_)
  refine tk 0 ?_
  refine tk 1 ?_
  refine tk 2 ?_
  refine tk 3 ?_
  refine tk 4 ?_
  refine tk 5 ?_
  obtain ⟨A2, c2, he, hR1⟩ := own_reads ho3.out
  injection he with e1 _ e2
  subst e1 e2
  refine rd1 6 (fun K hK => ?_)
  go_simp
  refine (jw A1 ds.length c1 ds w3.drew (hJ3.out.calm (drewB _)) (by exact hR1) (by omega)).mono ?_
  rintro e w4 ⟨rfl, hw4⟩
  replace hw4 : Wrote 150 B (XS (fun k => X k ∨ k = nb) sc (.slice A1 ds.length c1)) b (xs ++ ds) w3 w4 := ⟨hw4.1, undrewF hw4.2⟩
  have hJS4 := Aside0.mk ((⟨⟨⟨_, ds, hw4.2.heap hs3.out (fun e => e.2 (.inr (.inl rfl))), hw4.2.own ho3.out (fun k hk e => e.2 (.inr (.inr hk))), fun k hk e => hX3.out k hk (.inl e), hw4.1.less (fun k hk => hk.imp (fun e => .inl e) id)⟩, h.out.ge, h.out.ne⟩, hFx.out.trans (hw4.2.mono (S2 := fun k => B ≤ k ∧ ¬ (X k ∨ k = nb)) (fun k _ e => ⟨e.1, fun hx => e.2 (.inl hx)⟩)) (fun _ _ h => h) |>.mono (fun k _ e => ⟨e.1, fun hx => e.2 (.inl hx)⟩)⟩ : WrS B X b sc (xs ++ ds) w w4))
  have hn4 := hw4.2.heap hn3.out (fun e => e.2 (.inl (.inr rfl)))
  have hs4 := hw4.2.heap hs3.out (fun e => e.2 (.inr (.inl rfl)))
  have hc4 := cell_of hs4
  have q0 := cell_at hn4 0; have q1 := cell_at hn4 1
  simp at q0 q1
  clear hw4
  go_simp
  refine hK.out _ _ ⟨q0, q1, hc4⟩ (fun hHeld => ?_)
  clear hK K
  try simp only [Act.put, List.setIfInBounds_toArray, List.set_cons_zero, List.set_cons_succ]
  refine wpAnyH_done (by kernel_rfl) ?_ _
  refine NoPanic.normal ?_
  clear hHeld
  go_wp2
  refine bodyPost_end (results_none rfl _ _ _) rfl ?_
  exact ⟨rfl, hJS4.out⟩
end H
end Go.Proofs.YtkihaebaccdjdaaGreatDoor
