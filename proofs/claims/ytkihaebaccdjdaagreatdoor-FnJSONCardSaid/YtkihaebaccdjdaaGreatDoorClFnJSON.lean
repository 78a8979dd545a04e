/- The law FnJSON returns true whatever its arguments are, and they read behind the call as they read before; condition: the listed package variables hold what their initialisers lay. -/
import Derived.Test.YtkihaebaccdjdaaGreatDoorJ17
import Derived.Test.YtkihaebaccdjdaaGreatDoorJ52
set_option linter.unusedVariables false
set_option linter.unusedSimpArgs false
namespace Go.Proofs.YtkihaebaccdjdaaGreatDoor.fnJSON
open Go.ChangeShapes Go.WideShapes Go.ChangeAt Go.RowKit
open Go.ChangeMaps (open_string shut_string)
set_option maxRecDepth 100000

theorem laid_plain {W : World} (hL : laidMetH Tryz.prog Rows.fnJSONRow.laid W) : laidMet Tryz.prog Cl.laidL W := by
  rw [Go.MakeChecks.laidMetH_plain _ _ _ (by kernel_rfl)] at hL
  exact hL

theorem contract (H0 : Type) (enc : TypeId × Value → H0) (W : World) (base : Nat) (args : Array Value) (ds gs : List (DataW H0)) (before : List MemPlace)
    (hval : ∀ (j : Nat) t v, Tryz.f5.params[j]? = some t → args[j]? = some v → Value.okWide Tryz.prog W .any base t v)
    (hW : DataW.Whole enc Tryz.prog Tryz.f5.params.toList Rows.fnJSONSpec.vars false W args.toList ds gs before) (hL : laidMetH Tryz.prog Rows.fnJSONRow.laid W)
    (hz : (DataW.weightsEach Tryz.prog (Tryz.f5.params.toList ++ (OpenSpec.ofChange Rows.fnJSONSpec).bare.plain.varTypes Tryz.prog) (ds ++ gs)).all (· ≤ reachBytes) = true) :
    Calls Tryz.prog 5 args W fun e W' => ∃ v, e = .returned v ∧ Rows.fnJSONSpec.post enc Tryz.prog Tryz.f5 false true false false W args v W' := by
  have hT := Cl.tab_of (laid_plain hL)
  have hU := Cl.u8_of (laid_plain hL)
  have h4 := Cl.four_of hU
  have hW' := hW
  obtain ⟨p, q, hA0, hV, rfl, hfz, hnd⟩ := hW
  have hA : DataW.TrodAll enc Tryz.prog W 0 (fun _ => true) true Tryz.f5.params.toList args.toList ds p := hA0
  rw [Tryz.params5] at hA hval
  obtain ⟨v0, vs0, d0, ds0, p0, q0, hargs, rfl, rfl, h0, r0⟩ := trodAll_cons hA
  obtain ⟨rfl, rfl, rfl⟩ := trodAll_nil r0
  obtain rfl : args = #[v0] := by cases args; simp_all
  obtain ⟨g, t, cs, fuel, dg, pg, rfl, _⟩ := trodVars_one hV
  have hw0 : ∀ m ∈ d0.weights Tryz.prog 28, m ≤ reachBytes := fun m hm => by
    rw [Tryz.params5] at hz
    simp only [List.all_eq_true, decide_eq_true_eq] at hz
    exact hz m (by simp [DataW.weightsEach, hm])
  obtain ⟨x0, q0n, rfl, hN0, hS0⟩ := Cl.open_node (hval 0 28 v0 rfl rfl) h0 hw0
  refine (H.fnJSON x0 q0n W hN0 (hS0 7) (Cl.pow_of (laid_plain hL)) hT hU h4).mono fun e W' ⟨he, hb⟩ => ?_
  subst he
  exact ⟨_, rfl, Cl.post_true Cl.laidOut Tryz.underlying4 (by kernel_rfl) Cl.varsOk rfl hW' hb rfl⟩

theorem witness_row (os : Os) {H : Type} (enc : TypeId × Value → H) :
    (OpenSpec.ofChange Rows.fnJSONSpec).preRow enc Tryz.prog Tryz.f5 Rows.fnJSONRow.domain false Rows.fnJSONRow.laid ((Cl.laidWorld os).forCall (fun _ _ => 0) ⟨#[], #[.agg #[.int .i64 0, .string ⟨#[]⟩, .int .i64 0, .slice none 0 0, .slice none 0 0, .slice none 0 0, .string ⟨#[]⟩, .string ⟨#[]⟩, .string ⟨#[]⟩, .slice none 0 0]], []⟩).memory #[.agg #[.int .i64 0, .string ⟨#[]⟩, .int .i64 0, .slice none 0 0, .slice none 0 0, .slice none 0 0, .string ⟨#[]⟩, .string ⟨#[]⟩, .string ⟨#[]⟩, .slice none 0 0]] := by
  have hw : (DataW.whole enc Tryz.prog ((Cl.laidWorld os).forCall (fun _ _ => 0) ⟨#[], #[.agg #[.int .i64 0, .string ⟨#[]⟩, .int .i64 0, .slice none 0 0, .slice none 0 0, .slice none 0 0, .string ⟨#[]⟩, .string ⟨#[]⟩, .string ⟨#[]⟩, .slice none 0 0]], []⟩).memory Tryz.f5.params.toList Rows.fnJSONSpec.vars false #[Value.agg #[.int .i64 0, .string ⟨#[]⟩, .int .i64 0, .slice none 0 0, .slice none 0 0, .slice none 0 0, .string ⟨#[]⟩, .string ⟨#[]⟩, .string ⟨#[]⟩, .slice none 0 0]].toList 8).map (fun x => (x.1, x.2.1)) =
      some ([.agg [.lit (.int .i64 0), .lit (.string []), .lit (.int .i64 0), .nil, .nil, .nil, .lit (.string []), .lit (.string []), .lit (.string []), .nil]], [Rows.laid_loop_example_pub_g01523_pub_neturl_table]) := by kernel_rfl
  obtain ⟨⟨x1, x2, x3⟩, hx, hx1⟩ := Option.map_eq_some_iff.1 hw
  simp only [Prod.mk.injEq] at hx1
  obtain ⟨rfl, rfl⟩ := hx1
  exact OpenSpec.preRow_of_cond 8 hx (by kernel_rfl) (fun k hk => by cases hk) (by kernel_rfl) (Cl.laid_met os _)

theorem lifted (os : Os) (started : os.Started) (H : Type) (enc : TypeId × Value → H) (F : Stop.Interp) :
    ReturnsInHanded {} Tryz.checked os 5 .any ((OpenSpec.ofChange Rows.fnJSONSpec).preRow enc Tryz.prog Tryz.f5 Rows.fnJSONRow.domain false Rows.fnJSONRow.laid) (((OpenSpec.ofChange Rows.fnJSONSpec).at F).post enc Tryz.prog Tryz.f5 false true false false) := by
  refine returnsInHanded_of_row (C := Tryz.checked) (s := OpenSpec.ofChange Rows.fnJSONSpec) Cl.own started (by kernel_rfl) Tryz.func5
    (witness_row_atRef (enc := enc) (C := Tryz.checked) false (Cl.laidWorld os) #[.agg #[.int .i64 0, .string ⟨#[]⟩, .int .i64 0, .slice none 0 0, .slice none 0 0, .slice none 0 0, .string ⟨#[]⟩, .string ⟨#[]⟩, .string ⟨#[]⟩, .slice none 0 0]] rfl (by kernel_rfl) (by kernel_rfl) (by kernel_rfl) (witness_row os enc)) ?_
  intro W base args ds gs before hval hW _ _ hz hL _ _
  exact contract H enc W base args ds gs before hval hW hL hz

theorem t3 : Tryz.pinned.checked.prog.funcNamed Rows.fnJSONRow.func = some 5 := by kernel_rfl
theorem t4 : Tryz.f5.isWrapper Tryz.pinned.checked.prog Rows.fnJSONRow.wrapper Rows.fnJSONRow.mainSum := by unfold Func.isWrapper; first | (rw [if_pos (by decide +kernel)]; kernel_rfl) | (rw [if_neg (by decide +kernel)]; exact ⟨rfl, rfl⟩)
theorem t5 : Tryz.f5.isInstance Tryz.pinned.checked.prog Rows.fnJSONRow.origin Rows.fnJSONRow.targs := of_decide_eq_true (by kernel_rfl)
theorem t6 : joinedFacts Tryz.pinned.checked.prog 5 Tryz.f5 (OpenSpec.ofChange Rows.fnJSONSpec).bare Rows.fnJSONRow = true := by kernel_rfl
theorem said : Rows.FnJSONSaid :=
  OpenClaim.holds_of_cond 5 Tryz.f5 rfl rfl rfl rfl rfl rfl rfl ⟨rfl, rfl, rfl, rfl, rfl⟩ rfl rfl rfl rfl rfl t3 Tryz.func5 t6 t5 t4
    (fun os started H enc _ F => by rw [OpenClaim.pre_eq_preRow]; exact lifted os started H enc F)

theorem plain (f : FuncId) (fn : Func) (hf : Tryz.pinned.checked.prog.funcNamed "loop.example/pub-g01523/laws.FnJSON" = some f) (hfn : Tryz.pinned.checked.prog.funcs[f]? = some fn) :
    true = Tryz.pinned.checked.prog.looks [] ∧ ∀ (j : Nat) t, fn.params[j]? = some t → Tryz.pinned.checked.prog.wantsStandIn t = false := by
  obtain rfl : f = 5 := Option.some.inj ((show Tryz.prog.funcNamed "loop.example/pub-g01523/laws.FnJSON" = some 5 by kernel_rfl).symm.trans hf) |>.symm
  obtain rfl : fn = Tryz.f5 := (Option.some.inj (Tryz.func5.symm.trans hfn)).symm
  refine ⟨by kernel_rfl, fun j t ht => ?_⟩
  rw [Tryz.params5] at ht
  have hm := Array.mem_of_getElem? ht
  simp at hm
  subst hm
  exact (show Tryz.prog.wantsStandIn 28 = false by kernel_rfl)

theorem card : Rows.FnJSONCardSaid :=
  Claim7.holds_tied_plain_at .later [] _ _ _ _ said (fun _ h => by cases h) (by kernel_rfl) (fun _ h => by cases h) fnJSON_row_tie rfl ⟨rfl, rfl⟩ (by kernel_rfl) rfl plain (by kernel_rfl)
#print axioms card
end Go.Proofs.YtkihaebaccdjdaaGreatDoor.fnJSON
