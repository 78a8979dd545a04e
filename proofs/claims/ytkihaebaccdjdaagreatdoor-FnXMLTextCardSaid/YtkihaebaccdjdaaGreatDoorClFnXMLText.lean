/- The law FnXMLText returns true whatever its arguments are, and they read behind the call as they read before; condition: the listed package variables hold what their initialisers lay. -/
import Derived.Test.YtkihaebaccdjdaaGreatDoorX22
import Derived.Test.YtkihaebaccdjdaaGreatDoorX52
set_option linter.unusedVariables false
set_option linter.unusedSimpArgs false
namespace Go.Proofs.YtkihaebaccdjdaaGreatDoor.fnXMLText
open Go.ChangeShapes Go.WideShapes Go.ChangeAt Go.RowKit
open Go.ChangeMaps (open_string shut_string)
set_option maxRecDepth 100000

theorem laid_plain {W : World} (hL : laidMetH Tryz.prog Rows.fnXMLTextRow.laid W) : laidMet Tryz.prog Cl.laidL W := by
 rw [Go.MakeChecks.laidMetH_plain _ _ _ (by kernel_rfl)] at hL
 exact hL

theorem contract (H0 : Type) (enc : TypeId × Value → H0) (W : World) (base : Nat) (args : Array Value) (ds gs : List (DataW H0)) (before : List MemPlace)
 (hval : ∀ (j : Nat) t v, Tryz.f8.params[j]? = some t → args[j]? = some v → Value.okWide Tryz.prog W .any base t v)
 (hW : DataW.Whole enc Tryz.prog Tryz.f8.params.toList Rows.fnXMLTextSpec.vars false W args.toList ds gs before) (hL : laidMetH Tryz.prog Rows.fnXMLTextRow.laid W) :
 Calls Tryz.prog 8 args W fun e W' => ∃ v, e = .returned v ∧ Rows.fnXMLTextSpec.post enc Tryz.prog Tryz.f8 false true false false W args v W' := by
 have hT := Cl.tab_of (laid_plain hL)
 have hU := Cl.u8_of (laid_plain hL)
 have h4 := Cl.four_of hU
 have hW' := hW
 obtain ⟨p, q, hA0, hV, rfl, hfz, hnd⟩ := hW
 have hA : DataW.TrodAll enc Tryz.prog W 0 (fun _ => true) true Tryz.f8.params.toList args.toList ds p := hA0
 rw [Tryz.params8] at hA hval
 obtain ⟨v0, vs0, d0, ds0, p0, q0, hargs, rfl, rfl, h0, r0⟩ := trodAll_cons hA
 obtain ⟨v1, vs1, d1, ds1, p1, q1, rfl, rfl, rfl, h1, r1⟩ := trodAll_cons r0
 obtain ⟨rfl, rfl, rfl⟩ := trodAll_nil r1
 obtain rfl : args = #[v0, v1] := by cases args; simp_all
 obtain ⟨g, t, cs, fuel, dg, pg, rfl, _⟩ := trodVars_one hV
 obtain ⟨a0, rfl, _, _, ws0⟩ := open_string Tryz.underlying9 (hval 0 9 v0 rfl rfl) h0
 obtain ⟨a1, rfl, _, _, ws1⟩ := open_string Tryz.underlying9 (hval 1 9 v1 rfl rfl) h1
 refine (H.fnXMLText a0 a1 W hT hU h4).mono fun e W' ⟨he, hb⟩ => ?_
 subst he
 exact ⟨_, rfl, Cl.post_true Cl.laidOut Tryz.underlying4 (by kernel_rfl) Cl.varsOk rfl hW' hb rfl⟩

theorem witness_row (os : Os) {H : Type} (enc : TypeId × Value → H) :
 (OpenSpec.ofChange Rows.fnXMLTextSpec).preRow enc Tryz.prog Tryz.f8 Rows.fnXMLTextRow.domain false Rows.fnXMLTextRow.laid ((Cl.laidWorld os).forCall (fun _ _ => 0) ⟨#[], #[.string ⟨#[]⟩, .string ⟨#[]⟩], []⟩).memory #[.string ⟨#[]⟩, .string ⟨#[]⟩] := by
 have hw : (DataW.whole enc Tryz.prog ((Cl.laidWorld os).forCall (fun _ _ => 0) ⟨#[], #[.string ⟨#[]⟩, .string ⟨#[]⟩], []⟩).memory Tryz.f8.params.toList Rows.fnXMLTextSpec.vars false #[Value.string ⟨#[]⟩, .string ⟨#[]⟩].toList 8).map (fun x => (x.1, x.2.1)) =
  some ([.lit (.string []), .lit (.string [])], [Rows.laid_loop_example_pub_g01523_pub_neturl_table]) := by kernel_rfl
 obtain ⟨⟨x1, x2, x3⟩, hx, hx1⟩ := Option.map_eq_some_iff.1 hw
 simp only [Prod.mk.injEq] at hx1
 obtain ⟨rfl, rfl⟩ := hx1
 exact OpenSpec.preRow_of_cond 8 hx (by kernel_rfl) (fun k hk => by cases hk) (by kernel_rfl) (Cl.laid_met os _)

theorem lifted (os : Os) (started : os.Started) (H : Type) (enc : TypeId × Value → H) (F : Stop.Interp) :
 ReturnsInHanded {} Tryz.checked os 8 .any ((OpenSpec.ofChange Rows.fnXMLTextSpec).preRow enc Tryz.prog Tryz.f8 Rows.fnXMLTextRow.domain false Rows.fnXMLTextRow.laid) (((OpenSpec.ofChange Rows.fnXMLTextSpec).at F).post enc Tryz.prog Tryz.f8 false true false false) := by
 refine returnsInHanded_of_row (C := Tryz.checked) (s := OpenSpec.ofChange Rows.fnXMLTextSpec) Cl.own started (by kernel_rfl) Tryz.func8
  (witness_row_atRef (enc := enc) (C := Tryz.checked) false (Cl.laidWorld os) #[.string ⟨#[]⟩, .string ⟨#[]⟩] rfl (by kernel_rfl) (by kernel_rfl) (by kernel_rfl) (witness_row os enc)) ?_
 intro W base args ds gs before hval hW _ _ _ hL _ _
 exact contract H enc W base args ds gs before hval hW hL

theorem t3 : Tryz.pinned.checked.prog.funcNamed Rows.fnXMLTextRow.func = some 8 := by kernel_rfl
theorem t4 : Tryz.f8.isWrapper Tryz.pinned.checked.prog Rows.fnXMLTextRow.wrapper Rows.fnXMLTextRow.mainSum := by unfold Func.isWrapper; (rw [if_neg (by decide +kernel)]; exact ⟨rfl, rfl⟩)
theorem t5 : Tryz.f8.isInstance Tryz.pinned.checked.prog Rows.fnXMLTextRow.origin Rows.fnXMLTextRow.targs := of_decide_eq_true (by kernel_rfl)
theorem t6 : joinedFacts Tryz.pinned.checked.prog 8 Tryz.f8 (OpenSpec.ofChange Rows.fnXMLTextSpec).bare Rows.fnXMLTextRow = true := by kernel_rfl
theorem said : Rows.FnXMLTextSaid :=
 OpenClaim.holds_of_cond 8 Tryz.f8 rfl rfl rfl rfl rfl rfl rfl ⟨rfl, rfl, rfl, rfl, rfl⟩ rfl rfl rfl rfl rfl t3 Tryz.func8 t6 t5 t4
  (fun os started H enc _ F => by rw [OpenClaim.pre_eq_preRow]; exact lifted os started H enc F)

theorem plain (f : FuncId) (fn : Func) (hf : Tryz.pinned.checked.prog.funcNamed "loop.example/pub-g01523/laws.FnXMLText" = some f) (hfn : Tryz.pinned.checked.prog.funcs[f]? = some fn) :
 true = Tryz.pinned.checked.prog.looks [] ∧ ∀ (j : Nat) t, fn.params[j]? = some t → Tryz.pinned.checked.prog.wantsStandIn t = false := by
 obtain rfl : f = 8 := Option.some.inj ((show Tryz.prog.funcNamed "loop.example/pub-g01523/laws.FnXMLText" = some 8 by kernel_rfl).symm.trans hf) |>.symm
 obtain rfl : fn = Tryz.f8 := (Option.some.inj (Tryz.func8.symm.trans hfn)).symm
 refine ⟨by kernel_rfl, fun j t ht => ?_⟩
 rw [Tryz.params8] at ht
 have hm := Array.mem_of_getElem? ht
 simp at hm
 subst hm
 exact (show Tryz.prog.wantsStandIn 9 = false by kernel_rfl)

theorem card : Rows.FnXMLTextCardSaid :=
 Claim7.holds_tied_plain_at .later [] _ _ _ _ said (fun _ h => by cases h) (by kernel_rfl) (fun _ h => by cases h) fnXMLText_row_tie rfl ⟨rfl, rfl⟩ (by kernel_rfl) rfl plain (by kernel_rfl)
#print axioms card
end Go.Proofs.YtkihaebaccdjdaaGreatDoor.fnXMLText
