import Derived.Test.YtkihaebaccdjdaaGreatDoorJ16
import Derived.Test.YtkihaebaccdjdaaGreatDoorJ6
set_option linter.unusedVariables false
set_option linter.unusedSimpArgs false
namespace Go.Proofs.YtkihaebaccdjdaaGreatDoor
open Go.RowKit Go.Proofs.YtkihaebaccdjdaaGreatDoorW.PrintWords Go.Proofs.YtkihaebaccdjdaaGreatDoorW.PrintLast Go.Proofs.YtkihaebaccdjdaaGreatDoorW.PrintMore
open Go.ChangeMaps (setBlock)
namespace H
/-! ### slices.Sort of one text -/
theorem miss1 (nm : String) (t : TypeId) (got : Array Method) (h : (got.any fun m => m.name == nm && m.sig == t) = false) : ∃ s, Instr.missingMethod #[(nm, t)] got = some s := by
 unfold Instr.missingMethod
 simp only [List.filter, h, Bool.not_false, List.map_cons, List.map_nil]
 cases hc : nm.contains (Char.ofNat 46)
 ·exact ⟨nm, by simp [List.partition, List.partition.loop, hc, Instr.least]⟩
 ·exact ⟨_, by simp [List.partition, List.partition.loop, hc, Instr.least]; rfl⟩
theorem ta61 (a : Addr) (w : World) : (Instr.typeAssert (.iface 52 (.pointer (some a))) 61 134 true).run Tryz.prog w = .ok (.tuple #[.nilIface, .bool false]) w := by
 have z0 : (zeroValue 134).run Tryz.prog w = .ok .nilIface w := by kernel_rfl
 have z5 : Tryz.prog.underlying 134 = some (.interface #[("WriteString", 141)]) := by kernel_rfl
 have z6 : (Tryz.prog.info? 52).map (fun i => i.methods.any fun m => m.name == "WriteString" && m.sig == 141) = some false := by kernel_rfl
 obtain ⟨i, hi, hg⟩ := Option.map_eq_some_iff.1 z6
 obtain ⟨s, hs⟩ := miss1 "WriteString" 141 i.methods hg
 simp [Instr.typeAssert, run_underlying z5, typeInfo, hi, hs, z0, Result.andThen]
theorem mk1 : madeCells (Value.string ⟨#[]⟩).cells (Int.toNat 1 * 1) = #[.string ⟨#[]⟩] := by
 simp [madeCells, Value.cells]
 exact ⟨0, by decide, rfl⟩
theorem look1 {m : Nat} {key : ByteArray} {v : Value} {w : World} (hm : w.heap[m]? = some (.map #[⟨.string key, v, 0⟩] 1)) : (Instr.lookup 59 (.map (some m)) (.string key) false).run Tryz.prog w = .ok v w := by
 have hu := Tryz.underlying59
 have hu9 := Tryz.underlying9
 have hck := fun b => MapKept.run_checkKey (P := Tryz.prog) (w := w) (k := .string key) hu9 (by constructor) b 9999
 have h3 : Instr.findNow .string (.string key) [(⟨.string key, v, 0⟩ : MapEntry)] 0 = some (some (0, v)) := by
  rcases MapKept.findNow_spec (d := .string) (k := .string key) trivial [(⟨.string key, v, 0⟩ : MapEntry)] 0 (fun x hx => by simp at hx; subst hx; trivial) with ⟨h1, h2⟩ | ⟨j, e, h1, h2, h3⟩
  ·exact absurd rfl (h2 ⟨.string key, v, 0⟩ (by simp))
  ·cases j with
   | zero => simp at h2; subst h2; simpa using h1
   | succ j => simp at h2
 have hf := MapKept.run_findKey (P := Tryz.prog) (w := w) hu9 h3
 simp [Instr.lookup, run_underlying hu, Sem.run_bind, Result.andThen, MapKept.run_getObj_map hm, hck, hf]
theorem inf9 : (Tryz.prog.info? 9).map (fun i => (i.zero, i.size, i.bytes)) = some (some (.string ⟨#[]⟩), 1, 16) := by kernel_rfl
set_option maxHeartbeats 4000000 in
set_option maxRecDepth 100000 in
theorem ins1 (g c : Nat) (w : World) : Calls Tryz.prog 179 #[.slice (some ⟨g, 0, none⟩) 1 c, .int .i64 0, .int .i64 1] w fun e w' => e = .returned (.tuple #[]) ∧ w' = w := by
 go_enter Tryz.func179, Tryz.ntmps179
 go_wp2_with fail
 go_loopg [6] 1 (fun q v6 w' => v6 = .int .i64 1 ∧ q = 1 ∧ w' = w)
 case atStart => exact ⟨rfl, rfl, rfl⟩
 case round =>
  obtain ⟨rfl, rfl, rfl⟩ := hrel
  go_wp2
  refine bodyPost_end (results_none rfl _ _ _) rfl ?_
  exact ⟨rfl, rfl⟩
set_option maxHeartbeats 4000000 in
set_option maxRecDepth 100000 in
theorem pdq1 (g c : Nat) (k : Int) (w : World) : Calls Tryz.prog 144 #[.slice (some ⟨g, 0, none⟩) 1 c, .int .i64 0, .int .i64 1, .int .i64 k] w fun e w' => e = .returned (.tuple #[]) ∧ w' = w := by
 go_enter Tryz.func144, Tryz.ntmps144
 go_wp2_with fail
 go_loopg [1, 2, 3, 8, 9, 10] 1 (fun q v1 v2 v3 v8 v9 v10 w' => v1 = .int .i64 0 ∧ v2 = .int .i64 1 ∧ q = 1 ∧ w' = w)
 case atStart => exact ⟨rfl, rfl, rfl, rfl⟩
 case round =>
  obtain ⟨rfl, rfl, rfl, rfl⟩ := hrel
  go_wp2_with fail
  refine (ins1 g c wr).mono ?_
  rintro e w' ⟨rfl, rfl⟩
  go_wp2_with fail
  exact bodyPost_ret (v := .tuple #[]) (results_none rfl _ _ _) rfl ⟨rfl, rfl⟩
set_option maxHeartbeats 4000000 in
set_option maxRecDepth 100000 in
theorem sort1 (g c : Nat) (w : World) : Calls Tryz.prog 77 #[.slice (some ⟨g, 0, none⟩) 1 c] w fun e w' => e = .returned (.tuple #[]) ∧ Below w.heap.size w w' := by
 go_enter Tryz.func77, Tryz.ntmps77
 go_wp2_with fail
 refine (Tryz.bits_Len 1 w (by omega) (by omega)).mono ?_
 rintro e w1 ⟨rfl, rfl⟩
 go_wp2_with fail
 refine (pdq1 g c _ w1).mono ?_
 rintro e w2 ⟨rfl, rfl⟩
 go_wp2
 refine bodyPost_end (results_none rfl _ _ _) rfl ?_
 exact ⟨rfl, Below.refl _ _⟩

set_option maxHeartbeats 8000000 in
set_option maxRecDepth 100000 in
/-- Encode: one entry. -/
theorem enc1 {B b m r : Nat} {X : Nat → Prop} {xs : List Int} (key val kq vq : ByteArray) (w : World) (h : JB 54 B X b xs w) (hXm : X m) (hXr : X r) (hM : M1 m r key val w) (hT : Tab w) (hB : 1 ≤ B) (hk : kq.size ≤ 2147483647) (hv : vq.size ≤ 2147483647)
 (hqk : ∀ w1, Tab w1 → Calls Tryz.prog 78 #[.string key] w1 fun e w' => e = .returned (.string kq) ∧ Below w1.heap.size w1 w')
 (hqv : ∀ w1, Tab w1 → Calls Tryz.prog 78 #[.string val] w1 fun e w' => e = .returned (.string vq) ∧ Below w1.heap.size w1 w') (hl : (xs ++ bytesOf kq ++ [61] ++ bytesOf vq).length ≤ 140737488355328) :
 Calls Tryz.prog 29 #[.agg #[.map (some m), .iface 52 (.pointer (some ⟨b, 0, none⟩)), .map (some m), .string ⟨#[]⟩, .bool false, .map none, .string ⟨#[]⟩, .bool false]] w fun e w' => e = .returned .nilIface ∧ Wrote 54 B X b (xs ++ bytesOf kq ++ [61] ++ bytesOf vq) w w' := by
 replace hqk := Aside0.mk hqk; replace hqv := Aside0.mk hqv; replace hl := Aside0.mk hl
 have hH := Aside0.mk h; have hM0 := Aside0.mk hM; have hT0 := Aside0.mk hT
 clear h hM hT
 have hta := ta61
 have hlt := lt_of hM0.out.obj
 have hBw : Aside0 (B ≤ w.heap.size) := .mk (by have := hH.out.ge; have := hH.out.lt; omega)
 obtain ⟨i9, hi9, hz9⟩ := Option.map_eq_some_iff.1 inf9
 simp only [Prod.mk.injEq] at hz9
 obtain ⟨hz0, hz1, hz2⟩ := hz9
 have hmk : ∀ w : World, (Instr.makeSlice 23 (.int .i64 0) (.int .i64 1)).run Tryz.prog w = .ok (.slice (some ⟨w.heap.size, 0, none⟩) 0 1) (w.alloc (.cells #[.string ⟨#[]⟩] 9)) := fun w => by
  have h := run_makeSlice (P := Tryz.prog) (w := w) 23 9 i9 (.string ⟨#[]⟩) Tryz.underlying23 hi9 hz0 .i64 .i64 0 1 (by omega) (by omega) (by rw [hz1]; decide) (by rw [hz2]; decide) (by omega)
  rw [hz1, mk1] at h
  exact h
 have o1 := heap_old hM0.out.obj (.cells #[.map (some m), .iface 52 (.pointer (some ⟨b, 0, none⟩)), .map (some m), .string ⟨#[]⟩, .bool false, .map none, .string ⟨#[]⟩, .bool false] 67)
 have o2 := heap_old o1 (.cells #[.iface 52 (.pointer (some ⟨b, 0, none⟩))] 138)
 have hlen : (Builtin.len_ #[59] 3 #[.map (some m)]).run Tryz.prog ((w.alloc (.cells #[.map (some m), .iface 52 (.pointer (some ⟨b, 0, none⟩)), .map (some m), .string ⟨#[]⟩, .bool false, .map none, .string ⟨#[]⟩, .bool false] 67)).alloc (.cells #[.iface 52 (.pointer (some ⟨b, 0, none⟩))] 138)) = .ok (.int .i64 1) ((w.alloc (.cells #[.map (some m), .iface 52 (.pointer (some ⟨b, 0, none⟩)), .map (some m), .string ⟨#[]⟩, .bool false, .map none, .string ⟨#[]⟩, .bool false] 67)).alloc (.cells #[.iface 52 (.pointer (some ⟨b, 0, none⟩))] 138)) :=
  run_len_map _ 59 3 m _ 1 (by kernel_rfl) o2
 have o3 := heap_old o2 (.cells #[.string ⟨#[]⟩] 9)
 have hrg := run_range_map (P := Tryz.prog) (((w.alloc (.cells #[.map (some m), .iface 52 (.pointer (some ⟨b, 0, none⟩)), .map (some m), .string ⟨#[]⟩, .bool false, .map none, .string ⟨#[]⟩, .bool false] 67)).alloc (.cells #[.iface 52 (.pointer (some ⟨b, 0, none⟩))] 138)).alloc (.cells #[.string ⟨#[]⟩] 9)) 59 9 23 m _ 1 Tryz.underlying59 o3
 go_enter Tryz.func29, Tryz.ntmps29
 go_wp2_with fail
 have hg0 := heap_new w (.cells #[.map (some m), .iface 52 (.pointer (some ⟨b, 0, none⟩)), .map (some m), .string ⟨#[]⟩, .bool false, .map none, .string ⟨#[]⟩, .bool false] 67)
 have hb0 := below_alloc (Below.refl w.heap.size w) (.cells #[.map (some m), .iface 52 (.pointer (some ⟨b, 0, none⟩)), .map (some m), .string ⟨#[]⟩, .bool false, .map none, .string ⟨#[]⟩, .bool false] 67)
 have hz0 : (w.alloc (.cells #[.map (some m), .iface 52 (.pointer (some ⟨b, 0, none⟩)), .map (some m), .string ⟨#[]⟩, .bool false, .map none, .string ⟨#[]⟩, .bool false] 67)).heap.size = w.heap.size + 1 := by simp
 clear hlen hrg o1 o2 o3 hmk
 generalize w.alloc (.cells #[.map (some m), .iface 52 (.pointer (some ⟨b, 0, none⟩)), .map (some m), .string ⟨#[]⟩, .bool false, .map none, .string ⟨#[]⟩, .bool false] 67) = W1 at *
 have hg1 := heap_new W1 (.cells #[.iface 52 (.pointer (some ⟨b, 0, none⟩))] 138)
 have hg0 := heap_old hg0 (.cells #[.iface 52 (.pointer (some ⟨b, 0, none⟩))] 138)
 have hb1 := below_alloc hb0 (.cells #[.iface 52 (.pointer (some ⟨b, 0, none⟩))] 138)
 have hz1 : (W1.alloc (.cells #[.iface 52 (.pointer (some ⟨b, 0, none⟩))] 138)).heap.size = W1.heap.size + 1 := by simp
 generalize W1.alloc (.cells #[.iface 52 (.pointer (some ⟨b, 0, none⟩))] 138) = W2 at *
 have hg2 := heap_new W2 (.cells #[.string ⟨#[]⟩] 9)
 have hg0 := heap_old hg0 (.cells #[.string ⟨#[]⟩] 9)
 have hg1 := heap_old hg1 (.cells #[.string ⟨#[]⟩] 9)
 have hb2 := below_alloc hb1 (.cells #[.string ⟨#[]⟩] 9)
 have hz2 : (W2.alloc (.cells #[.string ⟨#[]⟩] 9)).heap.size = W2.heap.size + 1 := by simp
 generalize W2.alloc (.cells #[.string ⟨#[]⟩] 9) = W3 at *
 have hg3 := heap_new W3 (.mapIter (some m) 1 #[] 1)
 have hg0 := heap_old hg0 (.mapIter (some m) 1 #[] 1)
 have hg1 := heap_old hg1 (.mapIter (some m) 1 #[] 1)
 have hg2 := heap_old hg2 (.mapIter (some m) 1 #[] 1)
 have hb3 := below_alloc hb2 (.mapIter (some m) 1 #[] 1)
 generalize W3.alloc (.mapIter (some m) 1 #[] 1) = W4 at *
 obtain ⟨g, hg⟩ : ∃ g, w.heap.size = g := ⟨_, rfl⟩
 rw [hz2, hz1, hz0] at hg3
 rw [hz1, hz0] at hg2
 rw [hz0] at hg1
 rw [hg] at hg0 hg1 hg2 hg3 ⊢
 replace hg0 := Aside0.mk hg0; replace hg1 := Aside0.mk hg1; replace hg2 := Aside0.mk hg2; replace hg3 := Aside0.mk hg3; replace hb3 := Aside0.mk hb3
 clear hb0 hb1 hb2 hz0 hz1 hz2
 go_loopg [5, 6] 2 (fun q v5 v6 w' => (v5 = .slice (some ⟨g + 1 + 1, 0, none⟩) 0 1 ∧ q = 2 ∧ w' = W4) ∨
  (q = 1 ∧ ∃ kb cap cur, v5 = .slice (some ⟨kb, 0, none⟩) 1 cap ∧ g ≤ kb ∧ Aside0 (w'.heap[kb]? = some (.cells cur 9 (0, 0))) ∧ Aside0 (cur[0]? = some (.string key)) ∧ Aside0 (w'.heap[g]? = some (.cells #[.map (some m), .iface 52 (.pointer (some ⟨b, 0, none⟩)), .map (some m), .string ⟨#[]⟩, .bool false, .map none, .string ⟨#[]⟩, .bool false] 67 (0, 0))) ∧ Aside0 (w'.heap[g + 1]? = some (.cells #[.iface 52 (.pointer (some ⟨b, 0, none⟩))] 138 (0, 0))) ∧
   Aside0 (w'.heap[g + 1 + 1 + 1]? = some (.mapIter (some m) 1 #[0] 1)) ∧ Aside0 (Below w.heap.size w w')))
 case atStart => exact .inl ⟨rfl, rfl, rfl⟩
 case round =>
  rcases hrel with ⟨rfl, rfl, rfl⟩ | ⟨rfl, kb, cap, cur, rfl, hkb, k0, k1, k2, k3, k4, hB⟩
  ·have hm4 := heap_below hb3.out hM0.out.obj
   rcases run_next_at (P := Tryz.prog) wr 0 (g + 1 + 1 + 1) m 1 1 #[] _ 1 hg3.out hm4 (by intro x hx; simp at hx; subst hx; exact Nat.zero_lt_one) (Nat.le_refl _) with ⟨h0, _⟩ | ⟨e, he, w1, hw1, hrun⟩
   ·simp [leftOf] at h0
   ·have he' : e = ⟨.string key, .slice (some ⟨r, 0, none⟩) 1 1, 0⟩ := by simpa [leftOf] using he
    subst he'
    have hw1' : w1.heap = wr.heap ∧ Below wr.heap.size wr w1 := by
     rcases hw1 with rfl | rfl
     ·exact ⟨rfl, Below.refl _ _⟩
     ·exact ⟨rfl, drewBx _⟩
    obtain ⟨hh, hbw1⟩ := hw1'
    have hr1 : w1.heap[g + 1 + 1 + 1]? = some (.mapIter (some m) 1 #[] 1) := by rw [hh]; exact hg3.out
    have hF5 := fr_setBlock (S := fun k => k = g + 1 + 1 + 1) w1 (g + 1 + 1 + 1) (.mapIter (some m) 1 (#[].push 0) 1) (.inl rfl)
    have hit5 := at_setBlock hr1 (.mapIter (some m) 1 (#[].push 0) 1)
    have hm5 : (setBlock w1 (g + 1 + 1 + 1) (.mapIter (some m) 1 (#[].push 0) 1)).heap[m]? = _ := hF5.heap (show w1.heap[m]? = _ by rw [hh]; exact hm4) (by omega)
    have hent := run_entry_at (P := Tryz.prog) _ (g + 1 + 1 + 1) m 1 #[] _ 1 ⟨.string key, .slice (some ⟨r, 0, none⟩) 1 1, 0⟩ hit5 hm5 (by simp) (by simp)
    have k0 : (setBlock w1 (g + 1 + 1 + 1) (.mapIter (some m) 1 (#[].push 0) 1)).heap[g]? = _ := hF5.heap (show w1.heap[g]? = _ by rw [hh]; exact hg0.out) (by omega)
    have k1 : (setBlock w1 (g + 1 + 1 + 1) (.mapIter (some m) 1 (#[].push 0) 1)).heap[g + 1]? = _ := hF5.heap (show w1.heap[g + 1]? = _ by rw [hh]; exact hg1.out) (by omega)
    have k2 : (setBlock w1 (g + 1 + 1 + 1) (.mapIter (some m) 1 (#[].push 0) 1)).heap[g + 1 + 1]? = _ := hF5.heap (show w1.heap[g + 1 + 1]? = _ by rw [hh]; exact hg2.out) (by omega)
    have hB5 : Below g w (setBlock w1 (g + 1 + 1 + 1) (.mapIter (some m) 1 (#[].push 0) 1)) := by
     have h4 : Fr (fun k => g ≤ k) w wr := Fr.of_below hb3.out
     have h5 := (h4.trans (Fr.of_below (S := fun _ => False) hbw1) (fun _ _ h => h.elim)).trans hF5 (fun k _ e => by omega)
     exact h5.below (by omega) (fun k _ h => h)
    have hsz5 : g ≤ (setBlock w1 (g + 1 + 1 + 1) (.mapIter (some m) 1 (#[].push 0) 1)).heap.size := by have := lt_of k0; omega
    generalize setBlock w1 (g + 1 + 1 + 1) (.mapIter (some m) 1 (#[].push 0) 1) = W5 at *
    have hO5 : Aside0 (W5.ownsRow g 9 1 (.slice (some ⟨g + 1 + 1, 0, none⟩) 0 1) 0 []) := .mk ⟨rfl, .inr ⟨g + 1 + 1, 1, #[.string ⟨#[]⟩], rfl, by omega, k2, by omega, by simp [maxLen], rfl, rfl⟩⟩
    replace k0 := Aside0.mk k0; replace k1 := Aside0.mk k1; replace hit5 := Aside0.mk hit5; replace hB5 := Aside0.mk hB5
    clear k2 hm5 hF5 hr1 hh hbw1 he hm4 hw1
    go_wp2_with ((with_reducible refine gate_builtin (b := .append) (xs := #[.tmp 46, .tmp 48]) rfl ?_); at_builtin; refine print_append_cells (w0 := w) g rfl (.tmp 46) (.tmp 48) 23 9 (.string ⟨#[]⟩) 1 16 rfl Tryz.underlying23 inf9 rfl (by decide) (by decide) (.slice (some ⟨g + 1 + 1, 0, none⟩) 0 1) 0 [] [.string key] rfl rfl rfl (by intro u hu; simp at hu; subst hu; rfl) hO5.out hB5.out hsz5 (by decide) ?_; intro v1 w2 ho2 hb2 hg2' hat2; replace ho2 := Aside0.mk ho2; replace hb2 := Aside0.mk hb2; replace hg2' := Aside0.mk hg2')
    obtain ⟨_, ho | ⟨kb, cap, cur, rfl, c1, c2, c3, c4, c5, c6⟩⟩ := ho2.out
    ·exact absurd ho.2 (by decide)
    have hne : ∀ k, k ≠ g + 1 + 1 → k < W5.heap.size → w2.heap[k]? = W5.heap[k]? := fun k hk hlt => hg2'.out.block k hlt (by simp [Value.ownBlock]; exact hk)
    go_roundg 1
    case rel =>
     refine .inr ⟨rfl, kb, cap, cur, rfl, c1, ⟨c2⟩, ⟨?_⟩, ⟨(hne g (by omega) (lt_of k0.out)).trans k0.out⟩, ⟨(hne (g + 1) (by omega) (lt_of k1.out)).trans k1.out⟩, ⟨(hne _ (by omega) (lt_of hit5.out)).trans hit5.out⟩, ⟨by rw [hg]; exact hb2.out⟩⟩
     have h6 : cur.toList[0]? = some (.string key) := by
      have := congrArg (fun l => l[0]?) c6
      simpa using this
     simpa using h6
    case measure => omega
  ·have hMr := hM0.out.fr (Fr.of_below (S := fun _ => False) hB.out) (fun h => h) (fun h => h)
   rcases run_next_at (P := Tryz.prog) wr 0 (g + 1 + 1 + 1) m 1 1 #[0] _ 1 k4.out hMr.obj (by intro x hx; simp at hx; subst hx; exact Nat.zero_lt_one) (Nat.le_refl _) with ⟨_, hrun⟩ | ⟨e, he, _⟩
   ·clear hg0 hg1 hg2 hg3 hb3 k4
    replace hMr := Aside0.mk hMr
    have hJr := hH.out.re (X' := fun k => X k ∨ (g ≤ k ∧ k < wr.heap.size)) (fun k hk => hk.imp id (fun e => by omega)) (fun k hk => by rcases hk with e | e; have := hH.out.low k e; have := hB.out.size; omega; exact e.2) hB.out
    replace hJr := Aside0.mk hJr
    go_wp2_with fail
    refine (sort1 kb cap wr).mono ?_
    rintro e ws ⟨rfl, hbs⟩
    have hJ := Aside0.mk (hJr.out.calm hbs)
    have j0 := Aside0.mk (heap_below hbs k0.out)
    have j2 := Aside0.mk (heap_below hbs k2.out)
    have j3 := Aside0.mk (heap_below hbs k3.out)
    have hMs := Aside0.mk (hMr.out.fr (Fr.of_below (S := fun _ => False) hbs) (fun h => h) (fun h => h))
    have hFs : Aside0 (Fr (fun k => B ≤ k ∧ ¬ X k) w ws) := .mk ((Fr.of_below (S := fun k => B ≤ k ∧ ¬ X k) hB.out).trans (Fr.of_below (S := fun _ => False) hbs) (fun _ _ h => h.elim))
    have hTs := Aside0.mk ((hT0.out.below hB.out).below hbs)
    have hz : Aside0 (g ≤ kb ∧ kb < wr.heap.size ∧ g < wr.heap.size ∧ g + 1 < wr.heap.size ∧ wr.heap.size ≤ ws.heap.size) := .mk ⟨hkb, lt_of k0.out, lt_of k2.out, lt_of k3.out, hbs.size⟩
    clear hbs k0 k2 k3 hMr hJr hB
    obtain ⟨zr, hzr⟩ : ∃ z, wr.heap.size = z := ⟨_, rfl⟩
    rw [hzr] at hJ hz
    go_wp2_with fail
    go_loopg [7, 9, 10, 11, 13, 14, 15, 16, 17, 18, 19, 20, 21, 54] 2 (fun q v7 v9 v10 v11 v13 v14 v15 v16 v17 v18 v19 v20 v21 v54 w' => (v7 = .bool true ∧ v54 = .int .i64 0 ∧ q = 2 ∧ w' = ws) ∨ (v54 = .int .i64 1 ∧ q = 1 ∧ Aside0 (JB 54 B X b (xs ++ bytesOf kq ++ [61] ++ bytesOf vq) w') ∧ Aside0 (Fr (fun k => B ≤ k ∧ ¬ X k) w w')))
    case atStart => exact .inl ⟨rfl, rfl, rfl, rfl⟩
    case round =>
     rcases hrel with ⟨rfl, rfl, rfl, rfl⟩ | ⟨rfl, rfl, hJx, hFx⟩
     ·have c0 := cell_at j0.out 0
      rw [k1.out] at c0
      have c1 := cell_at j2.out 0
      simp at c1
      have hlk : (Instr.lookup 59 (.map (some m)) (.string key) false).run Tryz.prog wr = .ok (.slice (some ⟨r, 0, none⟩) 1 1) wr := look1 hMs.out.obj
      go_wp2_with fail
      refine (hqk.out wr hTs.out).mono ?_
      rintro e w5 ⟨rfl, hb5⟩
      have hJ5 := Aside0.mk (hJ.out.calm hb5)
      have j35 := Aside0.mk (heap_below hb5 j3.out)
      have hr5 := Aside0.mk (heap_below hb5 hMs.out.row)
      have hF5 := Aside0.mk (hFs.out.trans (Fr.of_below (S := fun _ => False) hb5) (fun _ _ h => h.elim))
      have hT5 := Aside0.mk (hTs.out.below hb5)
      clear hb5 hJ hMs hFs hTs j0 j2 j3 c0 c1 hlk
      go_wp2_with fail
      go_loopg [2, 7, 13, 14, 15, 16, 17, 18, 19, 20, 21, 66] 2 (fun q v2 v7 v13 v14 v15 v16 v17 v18 v19 v20 v21 v66 w' => (v7 = .bool true ∧ v66 = .int .i64 0 ∧ q = 2 ∧ w' = w5) ∨ (v66 = .int .i64 1 ∧ q = 1 ∧ Aside0 (JB 54 B X b (xs ++ bytesOf kq ++ [61] ++ bytesOf vq) w') ∧ Aside0 (Fr (fun k => B ≤ k ∧ ¬ X k) w w')))
      case atStart => exact .inl ⟨rfl, rfl, rfl, rfl⟩
      case round =>
       rcases hrel with ⟨rfl, rfl, rfl, rfl⟩ | ⟨rfl, rfl, hJx, hFx⟩
       ·have c0 := cell_at hr5.out 0
        simp at c0
        have hmw := mWW (g + 1) _ wr (by have := cell_at j35.out 0; simpa using this)
        go_wp2_with fail
        refine (ww kq wr hJ5.out hk (by have := hl.out; simp only [List.length_append, bytesOf_length, List.length_cons, List.length_nil] at this ⊢; omega)).mono ?_
        rintro e w6 ⟨n6, rfl, hw⟩
        have hJ6 := Aside0.mk hw.1
        have j36 := Aside0.mk (hw.2.heap j35.out (fun e => e.2 (.inr (by have := hz.out; omega))))
        have hr6 := Aside0.mk (hw.2.heap hr5.out (fun e => e.2 (.inl hXr)))
        have hT6 := Aside0.mk (hT5.out.fr hw.2 (fun e => absurd e.1 (by omega)))
        have hF6 := Aside0.mk (hF5.out.trans hw.2 (fun k _ e => ⟨e.1, fun x => e.2 (.inl x)⟩))
        have hmw := mWW (g + 1) _ w6 (by have := cell_at j36.out 0; simpa using this)
        clear hw hJ5 hr5 hT5 hF5 c0
        go_wp2_with fail
        refine (ww ⟨#[61]⟩ w6 hJ6.out (by decide) (by show _ + 1 ≤ _; have := hl.out; simp only [List.length_append, bytesOf_length, List.length_cons, List.length_nil] at this ⊢; omega)).mono ?_
        rintro e w7 ⟨n7, rfl, hw⟩
        have hJ7 := Aside0.mk hw.1
        have j37 := Aside0.mk (hw.2.heap j36.out (fun e => e.2 (.inr (by have := hz.out; omega))))
        have hT7 := Aside0.mk (hT6.out.fr hw.2 (fun e => absurd e.1 (by omega)))
        have hF7 := Aside0.mk (hF6.out.trans hw.2 (fun k _ e => ⟨e.1, fun x => e.2 (.inl x)⟩))
        have hnil := nilWW ⟨g + 1, 0, none⟩
        clear hw hJ6 hT6 hF6 hr6 hmw
        go_wp2_with fail
        go_region_held3 (fun _ => True) (trivial) (first | ((go_at_call 78; refine (hqv.out w7.drew (hT7.out.below (drewBx _))).mono ?_; rintro e w8 ⟨rfl, hb8⟩; replace hb8 := undrewx hb8; have hJ8 := Aside0.mk (hJ7.out.calm hb8); have j38 := Aside0.mk (heap_below hb8 j37.out); have hF8 := Aside0.mk (hF7.out.trans (Fr.of_below (S := fun _ => False) hb8) (fun _ _ h => h.elim)); have hmw := mWW (g + 1) _ w8 (by have := cell_at j38.out 0; simpa using this); clear hb8)) | ((go_at_call 266; refine (ww vq w8 hJ8.out hv (by have := hl.out; simp only [List.length_append, bytesOf_length, List.length_cons, List.length_nil] at this ⊢; show _ + 1 + _ ≤ _; omega)).mono ?_; rintro e w9 ⟨n9, rfl, hw⟩; have hJ9 := Aside0.mk hw.1; have hF9 := Aside0.mk (hF8.out.trans hw.2 (fun k _ e => ⟨e.1, fun x => e.2 (.inl x)⟩)); clear hw)))
        all_goals
         go_wp2_with fail
         go_roundg 1
         case rel => exact .inr ⟨rfl, rfl, ⟨hJ9.out.less (fun k hk => .inl hk)⟩, hF9⟩
         case measure => omega
       ·go_wp2_with fail
        go_roundg 1
        case rel => exact .inr ⟨rfl, rfl, hJx, hFx⟩
        case measure => omega
     ·go_wp2
      go_ret
      exact ⟨rfl, hJx.out, hFx.out⟩
   ·simp [leftOf] at he

end H
end Go.Proofs.YtkihaebaccdjdaaGreatDoor
