import Derived.Test.YtkihaebaccdjdaaGreatDoorX39
import Derived.Test.YtkihaebaccdjdaaGreatDoorX30
import Derived.Test.YtkihaebaccdjdaaGreatDoorX6
import Derived.Test.YtkihaebaccdjdaaGreatDoorX43
import Derived.ArgAppend
import Derived.WalkSpells
import Derived.Deep.RegionHeld3
set_option linter.unusedVariables false
set_option linter.unusedSimpArgs false
namespace Go.Proofs.YtkihaebaccdjdaaGreatDoor
open Go.RowKit Go.Proofs.YtkihaebaccdjdaaGreatDoorW.PrintWords Go.Proofs.YtkihaebaccdjdaaGreatDoorW.PrintLast Go.Proofs.YtkihaebaccdjdaaGreatDoorW.PrintMore
open H (tk rd1)
namespace PX

/-! ### append of a row of pairs to an empty slice -/
theorem run_app45 (ty : TypeId) (W : World) (ao : Option Addr) (A : Option Addr) (l : List S45) (c : Nat) (hC : Kd.C k45 W A l.length l) (hl : l.length ≤ 1000000) :
 ∃ (A' : Option Addr) (c' : Nat) (w1 : World), (Builtin.append_ #[26, 26] ty #[.slice ao 0 0, .slice A l.length c]).run Tryz.prog W = .ok (.slice A' l.length c') w1 ∧ l.length ≤ c' ∧ Kd.F k45 w1 (fun k => W.heap.size ≤ k) A' l.length l ∧ Below W.heap.size W w1 := by
 obtain ⟨i, hi, hzz⟩ := Option.map_eq_some_iff.1 info45
 simp only [Prod.mk.injEq] at hzz
 obtain ⟨hz, hsz, hby⟩ := hzz
 have hzs : (Value.agg #[(.string ⟨#[]⟩), (.string ⟨#[]⟩), (.bool false)]).cells.size = 3 := by rfl
 match l, hC, hl with
 | [], hC, hl =>
   refine ⟨ao, 0, W, ?_, Nat.le_refl _, fun W' _ => ⟨rfl, by simp, fun h => absurd h (by simp)⟩, Below.refl _ _⟩
   cases A <;> cases ao <;> simp [Builtin.append_, run_underlying Tryz.underlying26, sizeOf, typeInfo, hi, Builtin.lenOf, Builtin.firstCells, storeCells, loadCells, loadCellsFrom]
 | p :: ps, hC, hl =>
   obtain ⟨ad, rfl, _⟩ := hC.2.2 (by simp)
   obtain ⟨news, hnr, hnc⟩ := ReadsRow.inner_ hC
   have hnM : ∀ w1 base ok, Reps (k45.M w1 base ok) 3 (p :: ps) news := fun w1 base ok => hnr.imp_ (fun q c hq => by obtain rfl := k45_open hq; exact k45_mkM _ _ _ _)
   have hone : ∀ u ∈ news, u.oneCell' = true := by
    intro u hu
    obtain ⟨q, hq, rfl⟩ := List.mem_iff_getElem.1 hu
    have hql : q / 3 < (p :: ps).length := by
     rw [Nat.div_lt_iff_lt_mul (by decide)]
     have := hnr.1
     rw [show k45.sz = 3 from rfl] at this
     omega
    have hc := hnr.2 (q / 3) _ (List.getElem?_eq_getElem hql)
    refine k45.K_one hc _ ?_
    rw [List.mem_iff_getElem?]
    refine ⟨q % 3, ?_⟩
    rw [show k45.sz = 3 from rfl, List.getElem?_take, if_pos (Nat.mod_lt _ (by decide)), List.getElem?_drop, Nat.mul_comm, Nat.div_add_mod, List.getElem?_eq_getElem hq]
   have hrun : ∃ v' w', (Builtin.append_ #[26, 26] ty #[.slice ao 0 0, .slice (some ad) (p :: ps).length c]).run Tryz.prog W = .ok v' w' ∧ w'.ownsRow W.heap.size 45 3 v' (p :: ps).length news ∧ W.grownBy w' none := by
    cases ao with
    | some b =>
      obtain ⟨v', w', h1, h2, h3⟩ := run_append_arg_grows (P := Tryz.prog) W 26 ty 45 i _ 3 40 Tryz.underlying26 hi hz hsz hby hzs (by decide) b 0 0 [] rfl (fun j u hj => by simp at hj) ad (p :: ps).length c news hnr.1 hnc (by simp) (by simp only [maxLen]; omega) (by omega)
      rw [Nat.zero_add, List.nil_append] at h2
      exact ⟨v', w', h1, h2, h3⟩
    | none =>
      obtain ⟨v', w', h1, h2, h3, _⟩ := run_append_own (P := Tryz.prog) W W.heap.size 26 ty 45 i _ 3 40 Tryz.underlying26 hi hz hsz hby hzs (by decide) (.slice none 0 0) 0 [] (World.ownsRow_nil W _ 45 3) ad (p :: ps).length c news hnr.1 hnc hone (by simp only [maxLen]; omega) (by omega) (Nat.le_refl _)
      rw [Nat.zero_add, List.nil_append] at h2
      exact ⟨v', w', h1, h2, h3⟩
   obtain ⟨v', w', hrun, hown, hg⟩ := hrun
   rcases hown.2 with ⟨_, h0⟩ | ⟨g, cap, cur, rfl, h1, h2, h3, h4, h5⟩
   ·simp at h0
   ·exact ⟨_, _, w', hrun, h3, Kd.R_F (d := k45) (e := 45) (base := W.heap.size) (ok := fun k => W.heap.size ≤ k) ⟨fun k hk => by simp [Value.ownBlock] at hk; omega, news, hown, hnM _ _ _⟩, (Below.refl _ _).grown hg (Nat.le_refl _) (by simp)⟩
theorem op_app45 {o : Oper} {a : Act} {K : Act → World → Prop} {Q : Exit → Act → World → Prop} {W : World} (s x : Operand)
 (ho : o.op = .call { callee := .builtin .append, args := #[s, x], argTypes := #[26, 26] }) (ao : Option Addr) (hs : a.eval s = .slice ao 0 0) (A : Option Addr) (l : List S45) (c : Nat) (hx : a.eval x = .slice A l.length c)
 (hC : Kd.C k45 W A l.length l) (hl : l.length ≤ 1000000)
 (h : ∀ (A' : Option Addr) (c' : Nat) (w1 : World), l.length ≤ c' → Kd.F k45 w1 (fun k => W.heap.size ≤ k) A' l.length l → Below W.heap.size W w1 → K (a.put o.dst (.slice A' l.length c')) w1) :
 Oper.wp Tryz.prog o a W K Q := by
 obtain ⟨A', c', w1, hrun, h1, h2, h3⟩ := run_app45 o.type W ao A l c hC hl
 unfold Oper.wp
 simp [execOp, ho, resolve, invoke, builtin, hs, hx, hrun, Result.andThen]
 exact h _ _ _ h1 h2 h3
theorem wp_app45 {ops : Array Oper} {rest : List Oper} {o : Oper} {a : Act} {Q : Exit → Act → World → Prop} {W : World} (hgd : o.guard = none) (s x : Operand)
 (ho : o.op = .call { callee := .builtin .append, args := #[s, x], argTypes := #[26, 26] }) (ao : Option Addr) (hs : a.eval s = .slice ao 0 0) (A : Option Addr) (l : List S45) (c : Nat) (hx : a.eval x = .slice A l.length c)
 (hC : Kd.C k45 W A l.length l) (hl : l.length ≤ 1000000)
 (h : ∀ (A' : Option Addr) (c' : Nat) (w1 : World), l.length ≤ c' → Kd.F k45 w1 (fun k => W.heap.size ≤ k) A' l.length l → Below W.heap.size W w1 → wpList Tryz.prog ops Q rest (a.put o.dst (.slice A' l.length c')) w1) :
 wpList Tryz.prog ops Q (o :: rest) a W :=
 wpList_plain hgd fun K hK' => op_app45 s x ho ao hs A l c hx hC hl (fun A' c' w1 h1 h2 h3 => hK' _ _ (h A' c' w1 h1 h2 h3))
theorem slice0_45 (w : World) (ad : Addr) (n c : Nat) : (Instr.slice 26 (.slice (some ad) n c) none (some (.int .i64 0)) (some (.int .i64 0))).run Tryz.prog w = .ok (.slice (some ad) 0 0) w := by
 obtain ⟨i, hi, hzz⟩ := Option.map_eq_some_iff.1 info45
 simp only [Prod.mk.injEq] at hzz
 have h2 : ((0 : Int) ≤ (c : Int)) = True := eq_true (by omega)
 simp [Instr.slice, run_underlying Tryz.underlying26, Instr.sliceBounds, run_sliceBound_if, sliced, sizeOf, typeInfo, hi, hzz, h2]
theorem slice1_45 (w : World) (ad : Addr) (n c : Nat) : (Instr.slice 26 (.slice (some ad) (n + 1) c) (some (.int .i64 1)) none none).run Tryz.prog w = .ok (.slice (if c = 1 then some ad else (some ad).map (·.add (1 * 3))) n (c - 1)) w := by
 obtain ⟨i, hi, hzz⟩ := Option.map_eq_some_iff.1 info45
 simp only [Prod.mk.injEq] at hzz
 have h1 : (1 : Int) ≤ ((n + 1 : Nat) : Int) := by omega
 have h2 : ((1 : Int) ≤ (n : Int) + 1) = True := eq_true (by omega)
 simp [Instr.slice, run_underlying Tryz.underlying26, Instr.sliceBounds, run_sliceBound_if, sliced, sizeOf, typeInfo, hi, hzz, h2]
end PX
namespace PX
/-- The name of an attribute as it is written. -/
def attName (a : S45) : ByteArray := if a.f2 = true then (⟨#[120, 109, 108, 110, 115, 58]⟩ : ByteArray) ++ a.f0 else a.f0
def spec_reader_start.l0 : Nat → List S45 → ByteArray → Option (Bool × ByteArray × Bool)
 | 0, _, _ => none
 | k + 1, left, s => (spec_reader_space.f k s false).bind fun p => if p.2 = true then none else
   (spec_reader_take.f p.1 false (⟨#[47, 62]⟩ : ByteArray)).bind fun t => if t.2.2 = true then none else if t.1 = true then (if left.length = 0 then some (true, t.2.1, false) else none) else
   (spec_reader_take.f t.2.1 false (⟨#[62]⟩ : ByteArray)).bind fun u => if u.2.2 = true then none else if u.1 = true then (if left.length = 0 then some (false, u.2.1, false) else none) else
   (spec_cut.f k u.2.1 61).bind fun c => if c.2.2 = false then none else if u.2.1.size = s.size then none else
   (spec_reader_want.f c.2.1 false (⟨#[34]⟩ : ByteArray)).bind fun v => if v.2 = true then none else
   (spec_reader_data.f k v.1 false 34 true).bind fun d => if d.2.2 = true then none else
   (spec_reader_want.f d.2.1 false (⟨#[34]⟩ : ByteArray)).bind fun x => if x.2 = true then none else
   match left with
   | [] => none
   | a :: rest => if a.f0.size ≤ 2147483647 then (if c.1 = attName a then (if a.f1 = d.1 then spec_reader_start.l0 k rest x.1 else none) else none) else none
def spec_reader_start.f (k : Nat) (s0_0 : ByteArray) (s0_1 : Bool) (a1 : ByteArray) (l2 : List S45) : Option (Bool × ByteArray × Bool) :=
 if a1.size ≤ 2147483647 then (if l2.length ≤ 1000000 then (spec_reader_want.f s0_0 s0_1 ((⟨#[60]⟩ : ByteArray) ++ a1)).bind fun p => if p.2 = true then none else spec_reader_start.l0 k l2 p.1 else none) else none
set_option maxHeartbeats 8000000 in
set_option maxRecDepth 100000 in
theorem spec_reader_start.calls (k : Nat) (g : Nat) (s0_0 : ByteArray) (s0_1 : Bool) (a1 : ByteArray) (A2 : Option Addr) (c2 : Nat) (l2 : List S45) (r1 : Bool) (r2 : ByteArray) (r3 : Bool) (w0 w : World) (hI : IsS80 w0 w g s0_0 s0_1) (hB : Below w0.heap.size w0 w)
 (hr2 : ∀ W', KeepBut w W' g none → Kd.C k45 W' A2 l2.length l2) (hc2 : l2.length ≤ c2) (h : spec_reader_start.f k s0_0 s0_1 a1 l2 = some (r1, r2, r3)) :
 Calls Tryz.prog 104 #[.pointer (some ⟨g, 0, none⟩), .string a1, .slice A2 l2.length c2] w fun e w' => e = .returned (.bool r1) ∧ IsS80 w0 w' g r2 r3 ∧ Below w0.heap.size w0 w' ∧ KeepBut w w' g none := by
 unfold spec_reader_start.f at h
 by_cases h1 : a1.size ≤ 2147483647
 case neg => rw [if_neg h1] at h; cases h
 by_cases h2 : l2.length ≤ 1000000
 case neg => rw [if_pos h1, if_neg h2] at h; cases h
 rw [if_pos h1, if_pos h2] at h
 replace h := Option.bind_eq_some_iff.mp h
 obtain ⟨⟨p1, p2⟩, hp, h⟩ := h
 by_cases h3 : p2 = true
 case pos => simp only [h3, if_true] at h; cases h
 obtain rfl := Bool.eq_false_iff.2 h3
 simp only [Bool.false_eq_true, if_false] at h
 have hsz1 : 1 + a1.size ≤ 9223372036854775807 := by omega
 have HI := Aside0.mk hI; have HB := Aside0.mk hB; have HR := Aside0.mk hr2; have HK := Aside0.mk (KeepBut.refl w g none); have H0 := Aside0.mk h; have HP := Aside0.mk hp; have H2 := Aside0.mk h2; have HC2 := Aside0.mk hc2
 clear h h3 hI hB hr2 hp h1 h2 hc2
 go_enter Tryz.func104, Tryz.ntmps104
 go_wp2_with fail
 refine (spec_reader_want.calls g s0_0 s0_1 ((⟨#[60]⟩ : ByteArray) ++ a1) p1 false w0 w HI.out HB.out HP.out).mono ?_
 rintro e w1 ⟨rfl, hi, hb, hk⟩
 have HC := Aside0.mk (HR.out w1 hk)
 replace hi := Aside0.mk hi; replace hb := Aside0.mk hb; replace hk := Aside0.mk hk
 clear HI HB HK HR HP
 have HI := hi; have HB := hb; have HK := hk
 clear hi hb hk
 go_wp2_with (first | ((with_reducible refine gate_builtin (b := .append) (xs := #[.tmp 21, .tmp 22]) rfl ?_); go_must (at_builtin; refine wp_app45 rfl (.tmp 21) (.tmp 22) rfl _ rfl A2 l2 c2 rfl (by exact Kd.C_below HC.out (below_alloc (Below.refl _ _) _)) H2.out ?_; intro A3 c3 w2 hc3 hF hb)))
 have hb' : Below w1.heap.size w1 w2 := below_then (below_alloc (Below.refl _ _) _) (below_alloc (Below.refl _ _) _).size hb
 have HL := Aside0.mk (Kd.F_mono (ok' := fun k => k ≠ g) hF (fun k hk => by have h3 := IsS80.lt HI.out; have h4 : (w1.alloc (Obj.cells #[] 45)).heap.size ≤ k := hk; simp at h4; omega))
 have hi := Aside0.mk (HI.out.below hb'); have hb2 := Aside0.mk (below_then HB.out HB.out.size hb'); have hk := Aside0.mk (HK.out.trans (KeepBut.of_below hb' g none) (.inl rfl))
 have HN := Aside0.mk (And.intro H2.out hc3)
 clear HI HB HK hF hb hb' HC H2 HC2 hc3
 have HI := hi; have HB := hb2; have HK := hk
 clear hi hb2 hk
 go_loopg [7] k (fun kq v7 w' => ∃ (left : List S45) (s : ByteArray) (A : Option Addr) (c : Nat), v7 = .slice A left.length c ∧ Aside0 (spec_reader_start.l0 kq left s = some (r1, r2, r3)) ∧ Aside0 (left.length ≤ 1000000 ∧ left.length ≤ c) ∧ Aside0 (Kd.F k45 w' (fun k => k ≠ g) A left.length left) ∧ Aside0 (IsS80 w0 w' g s false) ∧ Aside0 (Below w0.heap.size w0 w') ∧ Aside0 (KeepBut w w' g none))
 case atStart => exact ⟨l2, p1, A3, c3, rfl, H0, HN, HL, HI, HB, HK⟩
 case round =>
  clear H0 HN HL HI HB HK
  obtain ⟨left, s, A, c, rfl, HA, HN, HL, HI, HB, HK⟩ := hrel
  cases gk with
  | zero => exact absurd HA.out (by simp [spec_reader_start.l0])
  | succ kk =>
    have H := HA.out
    clear HA
    simp only [spec_reader_start.l0] at H
    replace H := Option.bind_eq_some_iff.mp H
    obtain ⟨⟨q1, q2⟩, e1, H⟩ := H
    by_cases f1 : q2 = true
    ·simp only [f1, if_true] at H; cases H
    obtain rfl := Bool.eq_false_iff.2 f1
    simp only [Bool.false_eq_true, if_false] at H
    replace H := Option.bind_eq_some_iff.mp H
    obtain ⟨⟨t1, t2, t3⟩, e2, H⟩ := H
    by_cases f2 : t3 = true
    ·simp only [f2, if_true] at H; cases H
    obtain rfl := Bool.eq_false_iff.2 f2
    simp only [Bool.false_eq_true, if_false] at H
    replace e1 := Aside0.mk e1; replace e2 := Aside0.mk e2
    have c0 := cellS80_0 HI.out.1; have c1 := cellS80_1 HI.out.1; have z0 := blk_frozen HI.out.1 0; have z1 := blk_frozen HI.out.1 1
    go_wp2_with fail
    refine (spec_reader_space.calls kk g s false q1 false w0 _ HI.out HB.out e1.out).mono ?_
    rintro e w3 ⟨rfl, hi, hb, hk⟩
    have hl := Aside0.mk (Kd.F_keep HL.out hk (fun _ h => h)); have hk2 := Aside0.mk (HK.out.trans hk (.inl rfl)); replace hi := Aside0.mk hi; replace hb := Aside0.mk hb
    clear HI HB HL HK hk; (try clear c0 c1 z0 z1)
    have HI := hi; have HB := hb; have HL := hl; have HK := hk2
    clear hi hb hl hk2
    by_cases ht : t1 = true
    ·subst ht
     simp only [if_true] at H
     by_cases hl0 : left.length = 0
     case neg => rw [if_neg hl0] at H; cases H
     rw [if_pos hl0] at H
     obtain rfl : left = [] := List.eq_nil_of_length_eq_zero hl0
     simp only [Option.some.injEq, Prod.mk.injEq] at H
     obtain ⟨rfl, rfl, rfl⟩ := H
     go_wp2_with fail
     refine (spec_reader_take.calls g q1 false (⟨#[47, 62]⟩ : ByteArray) true t2 false w0 _ HI.out HB.out e2.out).mono ?_
     rintro e w4 ⟨rfl, hi, hb, hk⟩
     have hk2 := Aside0.mk (HK.out.trans hk (.inl rfl)); have d0 := cellS80_0 hi.1; have d1 := cellS80_1 hi.1; have y0 := blk_frozen hi.1 0; have y1 := blk_frozen hi.1 1; replace hi := Aside0.mk hi; replace hb := Aside0.mk hb
     clear HI HB HL HK hk; (try clear c0 c1 z0 z1)
     go_wp2
     go_ret
     exact ⟨rfl, hi.out.set_1 _, below_set hb.out (IsS80.ge hi.out), hk2.out.set_ 1 _⟩
    obtain rfl := Bool.eq_false_iff.2 ht
    simp only [Bool.false_eq_true, if_false] at H
    replace H := Option.bind_eq_some_iff.mp H
    obtain ⟨⟨u1, u2, u3⟩, e3, H⟩ := H
    by_cases f3 : u3 = true
    ·simp only [f3, if_true] at H; cases H
    obtain rfl := Bool.eq_false_iff.2 f3
    simp only [Bool.false_eq_true, if_false] at H
    replace e3 := Aside0.mk e3
    go_wp2_with fail
    refine (spec_reader_take.calls g q1 false (⟨#[47, 62]⟩ : ByteArray) false t2 false w0 _ HI.out HB.out e2.out).mono ?_
    rintro e w4 ⟨rfl, hi, hb, hk⟩
    have hl := Aside0.mk (Kd.F_keep HL.out hk (fun _ h => h)); have hk2 := Aside0.mk (HK.out.trans hk (.inl rfl)); replace hi := Aside0.mk hi; replace hb := Aside0.mk hb
    clear HI HB HL HK hk; (try clear c0 c1 z0 z1)
    have HI := hi; have HB := hb; have HL := hl; have HK := hk2
    clear hi hb hl hk2
    by_cases hu : u1 = true
    ·subst hu
     simp only [if_true] at H
     by_cases hl0 : left.length = 0
     case neg => rw [if_neg hl0] at H; cases H
     rw [if_pos hl0] at H
     obtain rfl : left = [] := List.eq_nil_of_length_eq_zero hl0
     simp only [Option.some.injEq, Prod.mk.injEq] at H
     obtain ⟨rfl, rfl, rfl⟩ := H
     go_wp2_with fail
     refine (spec_reader_take.calls g t2 false (⟨#[62]⟩ : ByteArray) true u2 false w0 _ HI.out HB.out e3.out).mono ?_
     rintro e w5 ⟨rfl, hi, hb, hk⟩
     have hk2 := Aside0.mk (HK.out.trans hk (.inl rfl)); have d0 := cellS80_0 hi.1; have d1 := cellS80_1 hi.1; have y0 := blk_frozen hi.1 0; have y1 := blk_frozen hi.1 1; replace hi := Aside0.mk hi; replace hb := Aside0.mk hb
     clear HI HB HL HK hk
     go_wp2
     go_ret
     exact ⟨rfl, hi.out.set_1 _, below_set hb.out (IsS80.ge hi.out), hk2.out.set_ 1 _⟩
    obtain rfl := Bool.eq_false_iff.2 hu
    simp only [Bool.false_eq_true, if_false] at H
    replace H := Option.bind_eq_some_iff.mp H
    obtain ⟨⟨o1, o2, o3⟩, e4, H⟩ := H
    by_cases ho : o3 = false
    ·simp only [ho, if_true] at H; cases H
    obtain rfl : o3 = true := by simpa using ho
    simp only [Bool.true_eq_false, if_false] at H
    by_cases hz : u2.size = s.size
    ·rw [if_pos hz] at H; cases H
    rw [if_neg hz] at H
    replace H := Option.bind_eq_some_iff.mp H
    obtain ⟨⟨v1, v2⟩, e5, H⟩ := H
    by_cases f5 : v2 = true
    ·simp only [f5, if_true] at H; cases H
    obtain rfl := Bool.eq_false_iff.2 f5
    simp only [Bool.false_eq_true, if_false] at H
    replace H := Option.bind_eq_some_iff.mp H
    obtain ⟨⟨d1, d2, d3⟩, e6, H⟩ := H
    by_cases f6 : d3 = true
    ·simp only [f6, if_true] at H; cases H
    obtain rfl := Bool.eq_false_iff.2 f6
    simp only [Bool.false_eq_true, if_false] at H
    replace H := Option.bind_eq_some_iff.mp H
    obtain ⟨⟨x1, x2⟩, e7, H⟩ := H
    by_cases f7 : x2 = true
    ·simp only [f7, if_true] at H; cases H
    obtain rfl := Bool.eq_false_iff.2 f7
    simp only [Bool.false_eq_true, if_false] at H
    have hze : (((u2.size : Nat) : Int) == ((s.size : Nat) : Int)) = false := beq_eq_false_iff_ne.2 (by omega)
    replace e4 := Aside0.mk e4; replace e5 := Aside0.mk e5; replace e6 := Aside0.mk e6; replace e7 := Aside0.mk e7
    match left, HN, HL, H with
    | [], HN, HL, H => cases H
    | a :: rest, HN, HL, H =>
      simp only at H
      by_cases ha : a.f0.size ≤ 2147483647
      case neg => rw [if_neg ha] at H; cases H
      by_cases hn : o1 = attName a
      case neg => rw [if_pos ha, if_neg hn] at H; cases H
      by_cases hv : a.f1 = d1
      case neg => rw [if_pos ha, if_pos hn, if_neg hv] at H; cases H
      rw [if_pos ha, if_pos hn, if_pos hv] at H
      have HH9 := Aside0.mk H
      go_wp2_with fail
      refine (spec_reader_take.calls g t2 false (⟨#[62]⟩ : ByteArray) false u2 false w0 _ HI.out HB.out e3.out).mono ?_
      rintro e w5 ⟨rfl, hi, hb, hk⟩
      have hl := Aside0.mk (Kd.F_keep HL.out hk (fun _ h => h)); have hk2 := Aside0.mk (HK.out.trans hk (.inl rfl)); replace hi := Aside0.mk hi; replace hb := Aside0.mk hb
      clear HI HB HL HK hk; (try clear c0 c1 z0 z1)
      have HI := hi; have HB := hb; have HL := hl; have HK := hk2
      clear hi hb hl hk2
      have c0 := cellS80_0 HI.out.1; have c1 := cellS80_1 HI.out.1; have z0 := blk_frozen HI.out.1 0; have z1 := blk_frozen HI.out.1 1
      go_wp2_with fail
      refine (spec_cut.calls kk u2 61 o1 o2 true w5 e4.out).mono ?_
      rintro e w6 ⟨rfl, hd⟩
      have hi := Aside0.mk (HI.out.below hd.below); have hb := Aside0.mk (below_then HB.out HB.out.size hd.below); have hl := Aside0.mk (Kd.F_below HL.out hd.below); have hk2 := Aside0.mk (HK.out.trans (KeepBut.of_below hd.below g none) (.inl rfl))
      clear HI HB HL HK hd c0 c1 z0 z1
      have HI := hi; have HB := hb; have HL := hl; have HK := hk2
      clear hi hb hl hk2
      have c0 := cellS80_0 HI.out.1; have c1 := cellS80_1 HI.out.1; have z0 := blk_frozen HI.out.1 0; have z1 := blk_frozen HI.out.1 1
      go_wp2_with fail
      have hi := Aside0.mk (HI.out.set_0 o2); have hb := Aside0.mk ((show Below w0.heap.size w0 (w6.setCell ⟨g, 0, none⟩ (.string o2)) from below_set HB.out (IsS80.ge HI.out))); have hl := Aside0.mk (Kd.F_far (p := ⟨g, 0, none⟩) HL.out (fun _ h => h) (.string o2)); have hk2 := Aside0.mk (HK.out.set_ 0 (.string o2))
      clear HI HB HL HK c0 c1 z0 z1
      have HI := hi; have HB := hb; have HL := hl; have HK := hk2
      clear hi hb hl hk2
      refine (spec_reader_want.calls g o2 false (⟨#[34]⟩ : ByteArray) v1 false w0 _ HI.out HB.out e5.out).mono ?_
      rintro e w7 ⟨rfl, hi, hb, hk⟩
      have hl := Aside0.mk (Kd.F_keep HL.out hk (fun _ h => h)); have hk2 := Aside0.mk (HK.out.trans hk (.inl rfl)); replace hi := Aside0.mk hi; replace hb := Aside0.mk hb
      clear HI HB HL HK hk; (try clear c0 c1 z0 z1)
      have HI := hi; have HB := hb; have HL := hl; have HK := hk2
      clear hi hb hl hk2
      go_wp2_with fail
      refine (spec_reader_data.calls kk g v1 false 34 true d1 d2 false w0 _ HI.out HB.out e6.out).mono ?_
      rintro e w8 ⟨rfl, hi, hb, hk⟩
      have hl := Aside0.mk (Kd.F_keep HL.out hk (fun _ h => h)); have hk2 := Aside0.mk (HK.out.trans hk (.inl rfl)); replace hi := Aside0.mk hi; replace hb := Aside0.mk hb
      clear HI HB HL HK hk; (try clear c0 c1 z0 z1)
      have HI := hi; have HB := hb; have HL := hl; have HK := hk2
      clear hi hb hl hk2
      go_wp2_with fail
      refine (spec_reader_want.calls g d2 false (⟨#[34]⟩ : ByteArray) x1 false w0 _ HI.out HB.out e7.out).mono ?_
      rintro e w9 ⟨rfl, hi, hb, hk⟩
      have hl := Aside0.mk (Kd.F_keep HL.out hk (fun _ h => h)); have hk2 := Aside0.mk (HK.out.trans hk (.inl rfl)); replace hi := Aside0.mk hi; replace hb := Aside0.mk hb
      clear HI HB HL HK hk; (try clear c0 c1 z0 z1)
      have HI := hi; have HB := hb; have HL := hl; have HK := hk2
      clear hi hb hl hk2
      obtain ⟨ad, rfl, hx0, hx1, hx2⟩ := at_T45 (Kd.F_now HL.out) 0 (by decide) (by simp)
      rw [show rd_T45 (a :: rest) 0 = a from rfl] at hx0 hx1 hx2
      simp only [Int.toNat_zero, Nat.zero_mul] at hx0 hx1 hx2
      rw [show ad.add 0 = ad from by simp [Addr.add]] at hx0 hx1 hx2
      subst hn
      have hnz : ((0 : Int) < ((rest.length + 1 : Nat) : Int)) = True := eq_true (by omega)
      go_wp2_with fail
      have hsz2 : 6 + a.f0.size ≤ 9223372036854775807 := by omega
      subst hv
      clear hze
      rcases Bool.eq_false_or_eq_true a.f2 with hsp | hsp
      ·rw [hsp] at hx2
       have hat : attName a = (⟨#[120, 109, 108, 110, 115, 58]⟩ : ByteArray) ++ a.f0 := by rw [attName, hsp]; rfl
       rw [hat]
       clear hat
       go_loopg [7, 87] 1 (fun q v7 v87 w' => q = 1 ∧ v7 = .slice (some ad) (rest.length + 1) c ∧ v87 = .int .i64 0 ∧ w' = w9)
       case atStart => exact ⟨rfl, rfl, rfl, rfl⟩
       case round =>
        obtain ⟨rfl, rfl, rfl, rfl⟩ := hrel
        go_wp2_with fail
        have hba := below_alloc (Below.refl wr.heap.size wr) (Obj.cells #[.string a.f0, .string a.f1, .bool true] 45)
        have HLa := Aside0.mk (Kd.F_below HL.out hba); have HIa := Aside0.mk (HI.out.below hba); have HBa := Aside0.mk (below_then HB.out HB.out.size hba); have HKa := Aside0.mk (HK.out.trans (KeepBut.of_below hba g none) (.inl rfl))
        clear hba HL HI HB HK hx0 hx1 hx2
        generalize wr.alloc (Obj.cells #[.string a.f0, .string a.f1, .bool true] 45) = wa at *
        have hcr := Kd.F_now (Kd.F_cut HLa.out (show 1 ≤ (a :: rest).length by simp) HN.out.2)
        have hs7 := fun w : World => slice1_45 w ad rest.length c
        rw [show k45.sz = 3 from rfl] at hcr
        obtain ⟨A9, hA9⟩ : ∃ A9, (if c = 1 then some ad else (some ad).map (·.add (1 * 3))) = A9 := ⟨_, rfl⟩
        rw [hA9] at hcr hs7
        have HCr : Aside0 (Kd.C k45 wa A9 rest.length rest) := .mk hcr
        clear hA9 hcr
        have h91 : ((1 : Int) ≤ (rest.length : Int) + 1) = True := eq_true (by omega)
        have h92 : ((rest.length : Int) + 1 < 1) = False := eq_false (by omega)
        have hlr : rest.length ≤ 1000000 := by have := HN.out.1; simp at this; omega
        have hs3 := fun w : World => slice0_45 w ad (rest.length + 1) c
        have hw1 : IntKind.i64.wrap 1 = 1 := by decide
        refine wp_region_noPanic ?_
        refine wp_region_held_drew (S := fun _ => True) (by kernel_rfl) trivial (fun hHeld => ?_)
        refine tk 0 ?_
        refine tk 1 ?_
        refine tk 2 ?_
        refine tk 3 (v := .slice (some ad) 0 0) ?_ (hy := fun w _ => ?_)
        rotate_left
        ·show ((Instr.slice 26 (.slice (some ad) (rest.length + 1) c) none (some (.int .i64 0)) (some (.int .i64 0))).run Tryz.prog w).andThen (fun v w => (pure (Next.value v) : Sem Next).run Tryz.prog w) = _
         rw [hs3 w]
         rfl
        refine tk 4 ?_
        refine tk 5 ?_
        refine tk 6 (v := .int .i64 1) ?_
        refine tk 7 (v := .slice A9 rest.length (c - 1)) ?_ (hy := fun w _ => ?_)
        rotate_left
        ·go_simp
        refine rd1 8 (fun K hK => ?_)
        rw [if_pos (by rfl)]
        refine op_app45 (.tmp 111) (.tmp 115) rfl _ rfl _ rest _ rfl (by exact HCr.out) hlr ?_
        intro A4 c4 wb hc4 hF4 hb4
        have hb5 : Below wa.heap.size wa wb := below_then (below_drew (Below.refl _ _)) (show wa.heap.size ≤ wa.drew.heap.size by simp) hb4
        have HL4 := Aside0.mk (Kd.F_mono (ok' := fun k => k ≠ g) hF4 (fun k hk => by have h3 := IsS80.lt HIa.out; have h4 : wa.heap.size ≤ k := hk; omega))
        have HI4 := Aside0.mk (HIa.out.below hb5); have HB4 := Aside0.mk (below_then HBa.out HBa.out.size hb5); have HK4 := Aside0.mk (HKa.out.trans (KeepBut.of_below hb5 g none) (.inl rfl)); have HN4 := Aside0.mk (And.intro hlr hc4)
        clear hF4 hb4 hb5 HIa HBa HKa HLa hc4 hs3 hs7
        refine hK.out _ _ trivial (fun hHeld => ?_)
        clear hK K
        try simp only [Act.put, List.setIfInBounds_toArray, List.set_cons_zero, List.set_cons_succ]
        refine rd1 9 (fun K hK => ?_)
        go_simp
        refine hK.out _ _ trivial (fun hHeld => ?_)
        clear hK K
        skip
        refine wpAnyH_done (by kernel_rfl) ?_ _
        refine NoPanic.normal ?_
        clear hHeld
        go_wp2_with fail
        go_roundg kk
        case rel => exact ⟨rest, x1, A4, c4, rfl, HH9, HN4, HL4, HI4, HB4, HK4⟩
        case measure => omega
      ·rw [hsp] at hx2
       have hat : attName a = a.f0 := by rw [attName, hsp]; rfl
       rw [hat]
       clear hat
       go_loopg [7, 87] 1 (fun q v7 v87 w' => q = 1 ∧ v7 = .slice (some ad) (rest.length + 1) c ∧ v87 = .int .i64 0 ∧ w' = w9)
       case atStart => exact ⟨rfl, rfl, rfl, rfl⟩
       case round =>
        obtain ⟨rfl, rfl, rfl, rfl⟩ := hrel
        go_wp2_with fail
        have hba := below_alloc (Below.refl wr.heap.size wr) (Obj.cells #[.string a.f0, .string a.f1, .bool false] 45)
        have HLa := Aside0.mk (Kd.F_below HL.out hba); have HIa := Aside0.mk (HI.out.below hba); have HBa := Aside0.mk (below_then HB.out HB.out.size hba); have HKa := Aside0.mk (HK.out.trans (KeepBut.of_below hba g none) (.inl rfl))
        clear hba HL HI HB HK hx0 hx1 hx2
        generalize wr.alloc (Obj.cells #[.string a.f0, .string a.f1, .bool false] 45) = wa at *
        have hcr := Kd.F_now (Kd.F_cut HLa.out (show 1 ≤ (a :: rest).length by simp) HN.out.2)
        have hs7 := fun w : World => slice1_45 w ad rest.length c
        rw [show k45.sz = 3 from rfl] at hcr
        obtain ⟨A9, hA9⟩ : ∃ A9, (if c = 1 then some ad else (some ad).map (·.add (1 * 3))) = A9 := ⟨_, rfl⟩
        rw [hA9] at hcr hs7
        have HCr : Aside0 (Kd.C k45 wa A9 rest.length rest) := .mk hcr
        clear hA9 hcr
        have h91 : ((1 : Int) ≤ (rest.length : Int) + 1) = True := eq_true (by omega)
        have h92 : ((rest.length : Int) + 1 < 1) = False := eq_false (by omega)
        have hlr : rest.length ≤ 1000000 := by have := HN.out.1; simp at this; omega
        have hs3 := fun w : World => slice0_45 w ad (rest.length + 1) c
        have hw1 : IntKind.i64.wrap 1 = 1 := by decide
        refine wp_region_noPanic ?_
        refine wp_region_held_drew (S := fun _ => True) (by kernel_rfl) trivial (fun hHeld => ?_)
        refine tk 0 ?_
        refine tk 1 ?_
        refine tk 2 ?_
        refine tk 3 (v := .slice (some ad) 0 0) ?_ (hy := fun w _ => ?_)
        rotate_left
        ·show ((Instr.slice 26 (.slice (some ad) (rest.length + 1) c) none (some (.int .i64 0)) (some (.int .i64 0))).run Tryz.prog w).andThen (fun v w => (pure (Next.value v) : Sem Next).run Tryz.prog w) = _
         rw [hs3 w]
         rfl
        refine tk 4 ?_
        refine tk 5 ?_
        refine tk 6 (v := .int .i64 1) ?_
        refine tk 7 (v := .slice A9 rest.length (c - 1)) ?_ (hy := fun w _ => ?_)
        rotate_left
        ·go_simp
        refine rd1 8 (fun K hK => ?_)
        rw [if_pos (by rfl)]
        refine op_app45 (.tmp 111) (.tmp 115) rfl _ rfl _ rest _ rfl (by exact HCr.out) hlr ?_
        intro A4 c4 wb hc4 hF4 hb4
        have hb5 : Below wa.heap.size wa wb := below_then (below_drew (Below.refl _ _)) (show wa.heap.size ≤ wa.drew.heap.size by simp) hb4
        have HL4 := Aside0.mk (Kd.F_mono (ok' := fun k => k ≠ g) hF4 (fun k hk => by have h3 := IsS80.lt HIa.out; have h4 : wa.heap.size ≤ k := hk; omega))
        have HI4 := Aside0.mk (HIa.out.below hb5); have HB4 := Aside0.mk (below_then HBa.out HBa.out.size hb5); have HK4 := Aside0.mk (HKa.out.trans (KeepBut.of_below hb5 g none) (.inl rfl)); have HN4 := Aside0.mk (And.intro hlr hc4)
        clear hF4 hb4 hb5 HIa HBa HKa HLa hc4 hs3 hs7
        refine hK.out _ _ trivial (fun hHeld => ?_)
        clear hK K
        try simp only [Act.put, List.setIfInBounds_toArray, List.set_cons_zero, List.set_cons_succ]
        refine rd1 9 (fun K hK => ?_)
        go_simp
        refine hK.out _ _ trivial (fun hHeld => ?_)
        clear hK K
        skip
        refine wpAnyH_done (by kernel_rfl) ?_ _
        refine NoPanic.normal ?_
        clear hHeld
        go_wp2_with fail
        go_roundg kk
        case rel => exact ⟨rest, x1, A4, c4, rfl, HH9, HN4, HL4, HI4, HB4, HK4⟩
        case measure => omega
end PX
end Go.Proofs.YtkihaebaccdjdaaGreatDoor
