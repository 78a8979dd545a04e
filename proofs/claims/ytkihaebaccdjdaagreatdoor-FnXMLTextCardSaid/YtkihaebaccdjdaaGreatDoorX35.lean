import Derived.Test.YtkihaebaccdjdaaGreatDoorX25
import Derived.Test.YtkihaebaccdjdaaGreatDoorX34
set_option linter.unusedVariables false
set_option linter.unusedSimpArgs false
namespace Go.Proofs.YtkihaebaccdjdaaGreatDoor
open Go.RowKit Go.Proofs.YtkihaebaccdjdaaGreatDoorW.PrintWords Go.Proofs.YtkihaebaccdjdaaGreatDoorW.PrintLast Go.Proofs.YtkihaebaccdjdaaGreatDoorW.PrintMore
open PX
namespace H
/-! ### EncodeXML of a text with one attribute -/
theorem row1 {w : World} {q : Nat} {z : Nat × Nat} (a b : ByteArray) (c : Bool) (h : w.heap[q]? = some (.cells #[.string a, .string b, .bool c] 45 z)) : Kd.C k45 w (some ⟨q, 0, none⟩) 1 [⟨a, b, c⟩] := by
 refine ⟨rfl, by decide, fun _ => ⟨_, rfl, fun j p hj => ?_⟩⟩
 match j, hj with
 | 0, hj =>
   obtain rfl := Option.some.inj hj
   refine ⟨_, rfl, k45_mk w _, fun i u hu => ?_⟩
   have hadd : (⟨q, 0, none⟩ : Addr).add (0 * k45.sz + i) = ⟨q, i, none⟩ := by
    rw [Nat.zero_mul, Nat.zero_add]
    unfold Addr.add
    split <;> simp_all
   rw [hadd, cell_at h i]
   match i, hu with
   | 0, hu => exact hu
   | 1, hu => exact hu
   | 2, hu => exact hu
   | i + 3, hu => simp at hu
 | j + 1, hj => simp at hj
theorem el1_f (name s : ByteArray) (num : Int) (item kn vn : ByteArray) : impl_element.f 5 name 0 s num [] [] [] item kn vn [⟨⟨#[97]⟩, s, false⟩] = some (⟨#[]⟩, name, [⟨⟨⟨#[]⟩, ⟨#[97]⟩⟩, s⟩]) := by
 simp [impl_element.f, impl_element.l0, rd_T45, smxml_NewAttribute.f, wrap64]
/-- What is written for a text with one attribute. -/
def xtext (name s : ByteArray) : List Int := ([] ++ [60] ++ xs_ name ++ xats [⟨⟨⟨#[]⟩, ⟨#[97]⟩⟩, s⟩] ++ [62]) ++ xs_ s ++ [60] ++ [47] ++ xs_ name ++ [62]
theorem exText {q c4 : Nat} {z : Nat × Nat} (name s : ByteArray) (num : Int) (item kn vn : ByteArray) (w : World) (hT : Lib.Utf8Tabs 2 3 w) (h4 : 4 ≤ w.heap.size)
 (hname : name.size ≠ 0) (hname2 : name.size ≤ 9223372036854775807) (hs2 : s.size ≤ 9223372036854775807) (hl : (xtext name s).length ≤ 140737488355328) (hq : w.heap[q]? = some (.cells #[.string ⟨#[97]⟩, .string s, .bool false] 45 z)) (hc4 : 1 ≤ c4) :
 Calls Tryz.prog 18 #[.string name, ND 0 s num (.slice none 0 0) (.slice none 0 0) (.slice none 0 0) item kn vn (.slice (some ⟨q, 0, none⟩) 1 c4)] w fun e w' => e = .returned (.string (strOfNums (xtext name s))) ∧ Fr (fun k => w.heap.size ≤ k) w w' := by
 refine exml name 0 s num item kn vn none none none (some ⟨q, 0, none⟩) 0 0 0 1 0 0 0 c4 [⟨⟨⟨#[]⟩, ⟨#[97]⟩⟩, s⟩] w hT h4 hname hname2 (fun a ha => by simp at ha; subst ha; exact ⟨show (⟨#[97]⟩ : ByteArray).size ≠ 0 by decide, show (⟨#[]⟩ : ByteArray).size ≤ 9223372036854775807 by decide, show (⟨#[97]⟩ : ByteArray).size ≤ 9223372036854775807 by decide, hs2⟩) (by unfold xtext at hl; simp only [List.length_append, List.length_cons, List.length_nil] at hl ⊢; omega) (fun w1 hf => ?_) (fun b sc X A n c w1 hJ hT1 hF hA => ?_)
 ·have hq1 := hf.heap hq (fun h => by have := lt_of hq; omega)
  have hr := row1 _ _ _ hq1
  have hc := impl_element.calls 5 name 0 s num none 0 [] none 0 [] none 0 [] item kn vn (some ⟨q, 0, none⟩) c4 [⟨⟨#[97]⟩, s, false⟩] _ _ _ w1 (Kd.C_nil _ _) (Nat.le_refl _) (Kd.C_nil _ _) (Nat.le_refl _) (Kd.C_nil _ _) (Nat.le_refl _) hr hc4 (el1_f name s num item kn vn)
  refine hc.mono ?_
  rintro e w' ⟨v, rfl, hR, hb⟩
  have hR2 := Kd.R_bound hR
  obtain ⟨inner, ho, _⟩ := hR.2
  rcases ho.2 with ⟨_, h0⟩ | ⟨g, cap, cur, rfl, _⟩
  ·simp at h0
  ·exact ⟨_, _, _, rfl, Kd.F_mono (Kd.R_F hR2) (fun k hk => hk.2.1), hb⟩
 ·exact inx0 (sc := sc) name A n c false false s num item kn vn none none none (some ⟨q, 0, none⟩) 0 0 0 1 0 0 0 c4 w1 h4 hJ hT1 hname hname2 hs2 hl
end H
end Go.Proofs.YtkihaebaccdjdaaGreatDoor
