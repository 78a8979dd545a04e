/- The law FnHas returns true whatever its arguments are, and they read behind the call as they read before; condition: the listed package variables hold what their initialisers lay. -/
import Derived.Test.YtclmjmfcggkpaaaGreatDoorU8
import Derived.Test.YtclmjmfcggkpaaaGreatDoorU51
import Derived.Test.YtclmjmfcggkpaaaGreatDoorU52
set_option linter.unusedVariables false
set_option linter.unusedSimpArgs false
namespace Go.Proofs.YtclmjmfcggkpaaaGreatDoor.fnHas
open Go.ChangeShapes Go.WideShapes Go.ChangeAt Go.RowKit
open Go.ChangeMaps (open_string shut_string)
set_option maxRecDepth 100000

theorem laid_tab {W : World} (hL : laidMetH Tryz.prog Rows.fnHasRow.laid W) : H.Tab W := by
  have h : laidMet Tryz.prog Rows.fnHasRow.laid W := by
    rw [Go.MakeChecks.laidMetH_plain _ _ _ (by kernel_rfl)] at hL
    exact hL
  exact Cl.tab_of h.tail.tail.tail.tail.tail.tail.tail.tail

theorem laid_pow {W : World} (hL : laidMetH Tryz.prog Rows.fnHasRow.laid W) : H.Pow W := by
  have h : laidMet Tryz.prog Rows.fnHasRow.laid W := by
    rw [Go.MakeChecks.laidMetH_plain _ _ _ (by kernel_rfl)] at hL
    exact hL
  exact Cl.pow_of h.tail.tail

theorem laid_spc {W : World} (hL : laidMetH Tryz.prog Rows.fnHasRow.laid W) : HH.Spc W := by
  have h : laidMet Tryz.prog Rows.fnHasRow.laid W := by
    rw [Go.MakeChecks.laidMetH_plain _ _ _ (by kernel_rfl)] at hL
    exact hL
  exact Cl.spc_of h.tail.tail.tail.tail.tail.tail.tail

theorem contract (H0 : Type) (enc : TypeId × Value → H0) (W : World) (base : Nat) (args : Array Value) (ds gs : List (DataW H0)) (before : List MemPlace)
    (hval : ∀ (j : Nat) t v, Tryz.f10.params[j]? = some t → args[j]? = some v → Value.okWide Tryz.prog W .any base t v)
    (hW : DataW.Whole enc Tryz.prog Tryz.f10.params.toList Rows.fnHasSpec.vars false W args.toList ds gs before) (hL : laidMetH Tryz.prog Rows.fnHasRow.laid W) :
    Calls Tryz.prog 10 args W fun e W' => ∃ v, e = .returned v ∧ Rows.fnHasSpec.post enc Tryz.prog Tryz.f10 false true false false W args v W' := by
  have hT := laid_tab hL
  have hP := laid_pow hL
  have hSp := laid_spc hL
  have hW' := hW
  obtain ⟨p, q, hA0, hV, rfl, hfz, hnd⟩ := hW
  have hA : DataW.TrodAll enc Tryz.prog W 0 (fun _ => true) true Tryz.f10.params.toList args.toList ds p := hA0
  rw [Tryz.params10] at hA hval
  obtain ⟨v0, vs0, d0, ds0, p0, q0, hargs, rfl, rfl, h0, r0⟩ := trodAll_cons hA
  obtain ⟨v1, vs1, d1, ds1, p1, q1, rfl, rfl, rfl, h1, r1⟩ := trodAll_cons r0
  obtain ⟨v2, vs2, d2, ds2, p2, q2, rfl, rfl, rfl, h2, r2⟩ := trodAll_cons r1
  obtain ⟨v3, vs3, d3, ds3, p3, q3, rfl, rfl, rfl, h3, r3⟩ := trodAll_cons r2
  obtain ⟨rfl, rfl, rfl⟩ := trodAll_nil r3
  obtain rfl : args = #[v0, v1, v2, v3] := by cases args; simp_all
  obtain ⟨g, t, cs, fuel, dg, pg, rfl, _⟩ := trodVars_one hV
  obtain ⟨A0, c0, l0, rfl, hc0, hC0, hn0⟩ := Cl.open_fields (hval 0 22 v0 rfl rfl) h0
  obtain ⟨A1, c1, l1, rfl, hc1, hC1, hn1⟩ := Cl.open_fields (hval 1 22 v1 rfl rfl) h1
  obtain ⟨a2, rfl, _, _, ws2⟩ := open_string Tryz.underlying9 (hval 2 9 v2 rfl rfl) h2
  obtain ⟨a3, rfl, _, _, ws3⟩ := open_string Tryz.underlying9 (hval 3 9 v3 rfl rfl) h3
  refine (HH.fnHas l0 A0 c0 l1 A1 c1 a2 a3 W hC0 hc0 hn0 hC1 hc1 hn1 hT hP hSp).mono fun e W' ⟨he, hb⟩ => ?_
  subst he
  exact ⟨_, rfl, Cl.post_true Cl.laidOut Tryz.underlying4 (by kernel_rfl) Cl.varsOk rfl hW' hb rfl⟩

theorem witness_row (os : Os) {H : Type} (enc : TypeId × Value → H) :
    (OpenSpec.ofChange Rows.fnHasSpec).preRow enc Tryz.prog Tryz.f10 Rows.fnHasRow.domain false Rows.fnHasRow.laid ((Cl.laidWorld os).forCall (fun _ _ => 0) ⟨#[], #[.slice none 0 0, .slice none 0 0, .string ⟨#[]⟩, .string ⟨#[]⟩], []⟩).memory #[.slice none 0 0, .slice none 0 0, .string ⟨#[]⟩, .string ⟨#[]⟩] := by
  have hw : (DataW.whole enc Tryz.prog ((Cl.laidWorld os).forCall (fun _ _ => 0) ⟨#[], #[.slice none 0 0, .slice none 0 0, .string ⟨#[]⟩, .string ⟨#[]⟩], []⟩).memory Tryz.f10.params.toList Rows.fnHasSpec.vars false #[Value.slice none 0 0, .slice none 0 0, .string ⟨#[]⟩, .string ⟨#[]⟩].toList 8).map (fun x => (x.1, x.2.1)) =
      some ([.nil, .nil, .lit (.string []), .lit (.string [])], [Rows.laid_loop_example_pub_g01523_pub_neturl_table]) := by kernel_rfl
  obtain ⟨⟨x1, x2, x3⟩, hx, hx1⟩ := Option.map_eq_some_iff.1 hw
  simp only [Prod.mk.injEq] at hx1
  obtain ⟨rfl, rfl⟩ := hx1
  exact OpenSpec.preRow_of_cond 8 hx (by kernel_rfl) (fun k hk => by cases hk) (by kernel_rfl) (Cl.laid_met os _)

theorem lifted (os : Os) (started : os.Started) (H : Type) (enc : TypeId × Value → H) (F : Stop.Interp) :
    ReturnsInHanded {} Tryz.checked os 10 .any ((OpenSpec.ofChange Rows.fnHasSpec).preRow enc Tryz.prog Tryz.f10 Rows.fnHasRow.domain false Rows.fnHasRow.laid) (((OpenSpec.ofChange Rows.fnHasSpec).at F).post enc Tryz.prog Tryz.f10 false true false false) := by
  refine returnsInHanded_of_row (C := Tryz.checked) (s := OpenSpec.ofChange Rows.fnHasSpec) Cl.own started (by kernel_rfl) Tryz.func10
    (witness_row_atRef (enc := enc) (C := Tryz.checked) false (Cl.laidWorld os) #[.slice none 0 0, .slice none 0 0, .string ⟨#[]⟩, .string ⟨#[]⟩] rfl (by kernel_rfl) (by kernel_rfl) (by kernel_rfl) (witness_row os enc)) ?_
  intro W base args ds gs before hval hW _ _ _ hL _ _
  exact contract H enc W base args ds gs before hval hW hL

theorem t3 : Tryz.pinned.checked.prog.funcNamed Rows.fnHasRow.func = some 10 := by kernel_rfl
theorem t4 : Tryz.f10.isWrapper Tryz.pinned.checked.prog Rows.fnHasRow.wrapper Rows.fnHasRow.mainSum := by unfold Func.isWrapper; first | (rw [if_pos (by decide +kernel)]; kernel_rfl) | (rw [if_neg (by decide +kernel)]; exact ⟨rfl, rfl⟩)
theorem t5 : Tryz.f10.isInstance Tryz.pinned.checked.prog Rows.fnHasRow.origin Rows.fnHasRow.targs := of_decide_eq_true (by kernel_rfl)
theorem t6 : joinedFacts Tryz.pinned.checked.prog 10 Tryz.f10 (OpenSpec.ofChange Rows.fnHasSpec).bare Rows.fnHasRow = true := by kernel_rfl
theorem said : Rows.FnHasSaid :=
  OpenClaim.holds_of_cond 10 Tryz.f10 rfl rfl rfl rfl rfl rfl rfl ⟨rfl, rfl, rfl, rfl, rfl⟩ rfl rfl rfl rfl rfl t3 Tryz.func10 t6 t5 t4
    (fun os started H enc _ F => by rw [OpenClaim.pre_eq_preRow]; exact lifted os started H enc F)

theorem plain (f : FuncId) (fn : Func) (hf : Tryz.pinned.checked.prog.funcNamed "loop.example/pub-g01523/laws.FnHas" = some f) (hfn : Tryz.pinned.checked.prog.funcs[f]? = some fn) :
    true = Tryz.pinned.checked.prog.looks [] ∧ ∀ (j : Nat) t, fn.params[j]? = some t → Tryz.pinned.checked.prog.wantsStandIn t = false := by
  obtain rfl : f = 10 := Option.some.inj ((show Tryz.prog.funcNamed "loop.example/pub-g01523/laws.FnHas" = some 10 by kernel_rfl).symm.trans hf) |>.symm
  obtain rfl : fn = Tryz.f10 := (Option.some.inj (Tryz.func10.symm.trans hfn)).symm
  refine ⟨by kernel_rfl, fun j t ht => ?_⟩
  rw [Tryz.params10] at ht
  have hm := Array.mem_of_getElem? ht
  simp at hm
  rcases hm with rfl | rfl
  · exact (show Tryz.prog.wantsStandIn 22 = false by kernel_rfl)
  · exact (show Tryz.prog.wantsStandIn 9 = false by kernel_rfl)

theorem card : Rows.FnHasCardSaid :=
  Claim7.holds_tied_plain_at .later [] _ _ _ _ said (fun _ h => by cases h) (by kernel_rfl) (fun _ h => by cases h) fnHas_row_tie rfl ⟨rfl, rfl⟩ (by kernel_rfl) rfl plain (by kernel_rfl)
#print axioms card
end Go.Proofs.YtclmjmfcggkpaaaGreatDoor.fnHas
