import Derived.Test.YtkihaebaccdjdaaGreatDoorJ5
import Derived.Test.YtkihaebaccdjdaaGreatDoorJ9
import Derived.Deep.RegionHeld3
import Derived.Lib.SlBytesConst
set_option linter.unusedVariables false
set_option linter.unusedSimpArgs false
namespace Go.Proofs.YtkihaebaccdjdaaGreatDoor
open Go.RowKit Go.Proofs.YtkihaebaccdjdaaGreatDoorW.PrintWords Go.Proofs.YtkihaebaccdjdaaGreatDoorW.PrintLast Go.Proofs.YtkihaebaccdjdaaGreatDoorW.PrintMore
open PX
namespace H
/-! ### smxml.escapeString -/
theorem nilWS (a : Addr) (w : World) : (nilAhead 395 95 (.pointer (some a)) "WriteString").run Tryz.prog w = .ok (some false) w := by kernel_rfl
theorem mWS (a : Addr) (w : World) : (method 395 95 (.pointer (some a)) "WriteString").run Tryz.prog w = .ok (263, .pointer (some a)) w := by kernel_rfl
theorem mW (a : Addr) (w : World) : (method 395 95 (.pointer (some a)) "Write").run Tryz.prog w = .ok (261, .pointer (some a)) w := by kernel_rfl
theorem mWR (a : Addr) (w : World) : (method 395 95 (.pointer (some a)) "WriteRune").run Tryz.prog w = .ok (262, .pointer (some a)) w := by kernel_rfl
theorem mSt (a : Addr) (w : World) : (method 395 95 (.pointer (some a)) "String").run Tryz.prog w = .ok (260, .pointer (some a)) w := by kernel_rfl
theorem BAt.lit (w : World) (zs : List Int) : BAt (w.alloc (.cells (nums .u8 zs).toArray 5 (zs.length, zs.length + 1))) w.heap.size zs := ⟨_, heap_new w _, .inr rfl⟩
set_option maxRecDepth 100000 in
theorem xlit206 (w : World) : Calls Tryz.prog 206 #[] w fun e w' => e = .returned (.slice (some ⟨w.heap.size, 0, none⟩) 5 5) ∧ BAt w' w.heap.size [38, 35, 51, 52, 59] ∧ Below w.heap.size w w' := by
 have hcv := fun (w : World) (C : Array Value) (n c : Nat) => Lib.run_convert_bytes_const (P := Tryz.prog) w 22 5 C n c Tryz.underlying22 Tryz.underlying5
 have hr := BAt.lit w [38, 35, 51, 52, 59]
 have hb := below_alloc (Below.refl w.heap.size w) (.cells (nums .u8 [38, 35, 51, 52, 59]).toArray 5 (5, 5 + 1))
 simp only [nums, List.map_cons, List.map_nil, List.length_cons, List.length_nil] at hr hb
 replace hr := Aside0.mk hr; replace hb := Aside0.mk hb
 go_enter Tryz.func206, Tryz.ntmps206
 go_wp2
 go_ret
 exact ⟨rfl, hr.out, hb.out⟩
set_option maxRecDepth 100000 in
theorem xlit207 (w : World) : Calls Tryz.prog 207 #[] w fun e w' => e = .returned (.slice (some ⟨w.heap.size, 0, none⟩) 5 5) ∧ BAt w' w.heap.size [38, 35, 51, 57, 59] ∧ Below w.heap.size w w' := by
 have hcv := fun (w : World) (C : Array Value) (n c : Nat) => Lib.run_convert_bytes_const (P := Tryz.prog) w 22 5 C n c Tryz.underlying22 Tryz.underlying5
 have hr := BAt.lit w [38, 35, 51, 57, 59]
 have hb := below_alloc (Below.refl w.heap.size w) (.cells (nums .u8 [38, 35, 51, 57, 59]).toArray 5 (5, 5 + 1))
 simp only [nums, List.map_cons, List.map_nil, List.length_cons, List.length_nil] at hr hb
 replace hr := Aside0.mk hr; replace hb := Aside0.mk hb
 go_enter Tryz.func207, Tryz.ntmps207
 go_wp2
 go_ret
 exact ⟨rfl, hr.out, hb.out⟩
set_option maxRecDepth 100000 in
theorem xlit208 (w : World) : Calls Tryz.prog 208 #[] w fun e w' => e = .returned (.slice (some ⟨w.heap.size, 0, none⟩) 5 5) ∧ BAt w' w.heap.size [38, 97, 109, 112, 59] ∧ Below w.heap.size w w' := by
 have hcv := fun (w : World) (C : Array Value) (n c : Nat) => Lib.run_convert_bytes_const (P := Tryz.prog) w 22 5 C n c Tryz.underlying22 Tryz.underlying5
 have hr := BAt.lit w [38, 97, 109, 112, 59]
 have hb := below_alloc (Below.refl w.heap.size w) (.cells (nums .u8 [38, 97, 109, 112, 59]).toArray 5 (5, 5 + 1))
 simp only [nums, List.map_cons, List.map_nil, List.length_cons, List.length_nil] at hr hb
 replace hr := Aside0.mk hr; replace hb := Aside0.mk hb
 go_enter Tryz.func208, Tryz.ntmps208
 go_wp2
 go_ret
 exact ⟨rfl, hr.out, hb.out⟩
set_option maxRecDepth 100000 in
theorem xlit209 (w : World) : Calls Tryz.prog 209 #[] w fun e w' => e = .returned (.slice (some ⟨w.heap.size, 0, none⟩) 4 4) ∧ BAt w' w.heap.size [38, 108, 116, 59] ∧ Below w.heap.size w w' := by
 have hcv := fun (w : World) (C : Array Value) (n c : Nat) => Lib.run_convert_bytes_const (P := Tryz.prog) w 22 5 C n c Tryz.underlying22 Tryz.underlying5
 have hr := BAt.lit w [38, 108, 116, 59]
 have hb := below_alloc (Below.refl w.heap.size w) (.cells (nums .u8 [38, 108, 116, 59]).toArray 5 (4, 4 + 1))
 simp only [nums, List.map_cons, List.map_nil, List.length_cons, List.length_nil] at hr hb
 replace hr := Aside0.mk hr; replace hb := Aside0.mk hb
 go_enter Tryz.func209, Tryz.ntmps209
 go_wp2
 go_ret
 exact ⟨rfl, hr.out, hb.out⟩
set_option maxRecDepth 100000 in
theorem xlit210 (w : World) : Calls Tryz.prog 210 #[] w fun e w' => e = .returned (.slice (some ⟨w.heap.size, 0, none⟩) 4 4) ∧ BAt w' w.heap.size [38, 103, 116, 59] ∧ Below w.heap.size w w' := by
 have hcv := fun (w : World) (C : Array Value) (n c : Nat) => Lib.run_convert_bytes_const (P := Tryz.prog) w 22 5 C n c Tryz.underlying22 Tryz.underlying5
 have hr := BAt.lit w [38, 103, 116, 59]
 have hb := below_alloc (Below.refl w.heap.size w) (.cells (nums .u8 [38, 103, 116, 59]).toArray 5 (4, 4 + 1))
 simp only [nums, List.map_cons, List.map_nil, List.length_cons, List.length_nil] at hr hb
 replace hr := Aside0.mk hr; replace hb := Aside0.mk hb
 go_enter Tryz.func210, Tryz.ntmps210
 go_wp2
 go_ret
 exact ⟨rfl, hr.out, hb.out⟩
set_option maxRecDepth 100000 in
theorem xlit211 (w : World) : Calls Tryz.prog 211 #[] w fun e w' => e = .returned (.slice (some ⟨w.heap.size, 0, none⟩) 5 5) ∧ BAt w' w.heap.size [38, 35, 120, 57, 59] ∧ Below w.heap.size w w' := by
 have hcv := fun (w : World) (C : Array Value) (n c : Nat) => Lib.run_convert_bytes_const (P := Tryz.prog) w 22 5 C n c Tryz.underlying22 Tryz.underlying5
 have hr := BAt.lit w [38, 35, 120, 57, 59]
 have hb := below_alloc (Below.refl w.heap.size w) (.cells (nums .u8 [38, 35, 120, 57, 59]).toArray 5 (5, 5 + 1))
 simp only [nums, List.map_cons, List.map_nil, List.length_cons, List.length_nil] at hr hb
 replace hr := Aside0.mk hr; replace hb := Aside0.mk hb
 go_enter Tryz.func211, Tryz.ntmps211
 go_wp2
 go_ret
 exact ⟨rfl, hr.out, hb.out⟩
set_option maxRecDepth 100000 in
theorem xlit212 (w : World) : Calls Tryz.prog 212 #[] w fun e w' => e = .returned (.slice (some ⟨w.heap.size, 0, none⟩) 5 5) ∧ BAt w' w.heap.size [38, 35, 120, 65, 59] ∧ Below w.heap.size w w' := by
 have hcv := fun (w : World) (C : Array Value) (n c : Nat) => Lib.run_convert_bytes_const (P := Tryz.prog) w 22 5 C n c Tryz.underlying22 Tryz.underlying5
 have hr := BAt.lit w [38, 35, 120, 65, 59]
 have hb := below_alloc (Below.refl w.heap.size w) (.cells (nums .u8 [38, 35, 120, 65, 59]).toArray 5 (5, 5 + 1))
 simp only [nums, List.map_cons, List.map_nil, List.length_cons, List.length_nil] at hr hb
 replace hr := Aside0.mk hr; replace hb := Aside0.mk hb
 go_enter Tryz.func212, Tryz.ntmps212
 go_wp2
 go_ret
 exact ⟨rfl, hr.out, hb.out⟩
set_option maxRecDepth 100000 in
theorem xlit213 (w : World) : Calls Tryz.prog 213 #[] w fun e w' => e = .returned (.slice (some ⟨w.heap.size, 0, none⟩) 5 5) ∧ BAt w' w.heap.size [38, 35, 120, 68, 59] ∧ Below w.heap.size w w' := by
 have hcv := fun (w : World) (C : Array Value) (n c : Nat) => Lib.run_convert_bytes_const (P := Tryz.prog) w 22 5 C n c Tryz.underlying22 Tryz.underlying5
 have hr := BAt.lit w [38, 35, 120, 68, 59]
 have hb := below_alloc (Below.refl w.heap.size w) (.cells (nums .u8 [38, 35, 120, 68, 59]).toArray 5 (5, 5 + 1))
 simp only [nums, List.map_cons, List.map_nil, List.length_cons, List.length_nil] at hr hb
 replace hr := Aside0.mk hr; replace hb := Aside0.mk hb
 go_enter Tryz.func213, Tryz.ntmps213
 go_wp2
 go_ret
 exact ⟨rfl, hr.out, hb.out⟩
set_option maxRecDepth 100000 in
theorem xlit214 (w : World) : Calls Tryz.prog 214 #[] w fun e w' => e = .returned (.slice (some ⟨w.heap.size, 0, none⟩) 6 6) ∧ BAt w' w.heap.size [38, 35, 120, 56, 53, 59] ∧ Below w.heap.size w w' := by
 have hcv := fun (w : World) (C : Array Value) (n c : Nat) => Lib.run_convert_bytes_const (P := Tryz.prog) w 22 5 C n c Tryz.underlying22 Tryz.underlying5
 have hr := BAt.lit w [38, 35, 120, 56, 53, 59]
 have hb := below_alloc (Below.refl w.heap.size w) (.cells (nums .u8 [38, 35, 120, 56, 53, 59]).toArray 5 (6, 6 + 1))
 simp only [nums, List.map_cons, List.map_nil, List.length_cons, List.length_nil] at hr hb
 replace hr := Aside0.mk hr; replace hb := Aside0.mk hb
 go_enter Tryz.func214, Tryz.ntmps214
 go_wp2
 go_ret
 exact ⟨rfl, hr.out, hb.out⟩
set_option maxRecDepth 100000 in
theorem xlit215 (w : World) : Calls Tryz.prog 215 #[] w fun e w' => e = .returned (.slice (some ⟨w.heap.size, 0, none⟩) 8 8) ∧ BAt w' w.heap.size [38, 35, 120, 50, 48, 50, 56, 59] ∧ Below w.heap.size w w' := by
 have hcv := fun (w : World) (C : Array Value) (n c : Nat) => Lib.run_convert_bytes_const (P := Tryz.prog) w 22 5 C n c Tryz.underlying22 Tryz.underlying5
 have hr := BAt.lit w [38, 35, 120, 50, 48, 50, 56, 59]
 have hb := below_alloc (Below.refl w.heap.size w) (.cells (nums .u8 [38, 35, 120, 50, 48, 50, 56, 59]).toArray 5 (8, 8 + 1))
 simp only [nums, List.map_cons, List.map_nil, List.length_cons, List.length_nil] at hr hb
 replace hr := Aside0.mk hr; replace hb := Aside0.mk hb
 go_enter Tryz.func215, Tryz.ntmps215
 go_wp2
 go_ret
 exact ⟨rfl, hr.out, hb.out⟩
set_option maxRecDepth 100000 in
theorem xlit217 (w : World) : Calls Tryz.prog 217 #[] w fun e w' => e = .returned (.slice (some ⟨w.heap.size, 0, none⟩) 3 3) ∧ BAt w' w.heap.size [239, 191, 189] ∧ Below w.heap.size w w' := by
 have hcv := fun (w : World) (C : Array Value) (n c : Nat) => Lib.run_convert_bytes_const (P := Tryz.prog) w 22 5 C n c Tryz.underlying22 Tryz.underlying5
 have hr := BAt.lit w [239, 191, 189]
 have hb := below_alloc (Below.refl w.heap.size w) (.cells (nums .u8 [239, 191, 189]).toArray 5 (3, 3 + 1))
 simp only [nums, List.map_cons, List.map_nil, List.length_cons, List.length_nil] at hr hb
 replace hr := Aside0.mk hr; replace hb := Aside0.mk hb
 go_enter Tryz.func217, Tryz.ntmps217
 go_wp2
 go_ret
 exact ⟨rfl, hr.out, hb.out⟩
theorem bytes_ext (s : ByteArray) (a b : Nat) : bytesOf (s.extract a b) = ((bytesOf s).drop a).take (b - a) := by
 have e : (s.extract a b).data.toList = (s.data.toList.drop a).take (b - a) := by simp [List.extract_eq_take_drop]
 simp only [bytesOf, e, List.map_take, List.map_drop]
theorem bytes_tail (s : ByteArray) (a : Nat) : bytesOf (s.extract a s.size) = (bytesOf s).drop a := by
 rw [bytes_ext, List.take_of_length_le (by simp [bytesOf_length])]
theorem get_bytes (s : ByteArray) (k : Nat) : ((bytesOf s).getD k 0).toNat = (s.get! k).toNat := by
 have e : s.get! k = s.data.toList.getD k 0 := by
  rw [List.getD_eq_getElem?_getD, Array.getElem?_toList]
  show s.data[k]! = _
  rw [getElem!_def]
  cases s.data[k]? <;> rfl
 rw [e, bytesOf, List.getD_eq_getElem?_getD, List.getD_eq_getElem?_getD, List.getElem?_map]
 cases s.data.toList[k]? <;> simp
theorem dec_str (s : ByteArray) : ((Lib.decodeGo s).1 : Int) = (decL (bytesOf s)).1 ∧ (Lib.decodeGo s).2 = (decL (bytesOf s)).2 := by
 unfold Lib.decodeGo decL
 rw [bytesOf_length]
 split
 ·exact ⟨rfl, rfl⟩
 ·rw [Lib.decode_at, get_bytes, get_bytes, get_bytes, get_bytes]
  exact ⟨rfl, rfl⟩
theorem decL_pos (l : List Int) (h : l ≠ []) : 1 ≤ (decL l).2 ∧ (decL l).2 ≤ l.length := by
 have hl : 0 < l.length := List.length_pos_iff.2 h
 unfold decL
 rw [if_neg (by omega)]
 exact decN_pos _ _ _ _ _ hl
/-- utf8.DecodeRuneInString at the rest of a string. -/
theorem decS (s : ByteArray) (i : Nat) (w : World) (hT : Lib.Utf8Tabs 2 3 w) :
 Calls Tryz.prog 205 #[.string (s.extract i s.size)] w fun e w' => e = .returned (.tuple #[.int .i32 (decL ((bytesOf s).drop i)).1, .int .i64 ((decL ((bytesOf s).drop i)).2 : Nat)]) ∧ Below w.heap.size w w' := by
 have h := Tryz.utf8_DecodeRuneInString (s.extract i s.size) w hT
 have e := dec_str (s.extract i s.size)
 rw [e.1, e.2, bytes_tail] at h
 exact h
structure EX (B b : Nat) (X Y : Nat → Prop) (xs : List Int) (w0 w : World) : Prop where
 jb : JB 97 B Y b xs w
 d : Lib.Utf8Tabs 2 3 w
 fr : Fr (fun k => B ≤ k ∧ ¬ X k) w0 w
 sub : ∀ k, X k → Y k
theorem tabs_keep {B : Nat} {X : Nat → Prop} {w w' : World} (hB : 4 ≤ B) (h : Lib.Utf8Tabs 2 3 w) (hf : Fr (fun k => B ≤ k ∧ ¬ X k) w w') : Lib.Utf8Tabs 2 3 w' :=
 tabs_fr h hf (fun h => absurd h.1 (by omega)) (fun h => absurd h.1 (by omega))
theorem EX.wrote {B b : Nat} {X Y : Nat → Prop} {xs ys : List Int} {w0 w w' : World} (h : EX B b X Y xs w0 w) (hB : 4 ≤ B) (hw : Wrote 97 B Y b ys w w') : EX B b X Y ys w0 w' :=
 ⟨hw.1, tabs_keep hB h.d hw.2, h.fr.trans hw.2 (fun k _ e => ⟨e.1, fun x => e.2 (h.sub k x)⟩), h.sub⟩
theorem EX.calm {B b : Nat} {X Y : Nat → Prop} {xs : List Int} {w0 w w' : World} (h : EX B b X Y xs w0 w) (hb : Below w.heap.size w w') : EX B b X Y xs w0 w' :=
 ⟨h.jb.calm hb, Utf8Tabs_below h.d hb, h.fr.trans (Fr.of_below (S := fun _ => False) hb) (fun _ _ h => h.elim), h.sub⟩
theorem EX.also {B b : Nat} {X Y : Nat → Prop} {xs : List Int} {w0 w w' : World} (h : EX B b X Y xs w0 w) (hb : Below w.heap.size w w') {g : Nat} (hg : w.heap.size ≤ g) (hg' : g < w'.heap.size) : EX B b X (fun k => Y k ∨ k = g) xs w0 w' :=
 ⟨h.jb.also hb hg hg', Utf8Tabs_below h.d hb, h.fr.trans (Fr.of_below (S := fun _ => False) hb) (fun _ _ h => h.elim), fun k hk => .inl (h.sub k hk)⟩
theorem EX.less {B b : Nat} {X Y : Nat → Prop} {xs : List Int} {w0 w : World} (h : EX B b X Y xs w0 w) : EX B b X X xs w0 w := ⟨h.jb.less h.sub, h.d, h.fr, fun _ h => h⟩
theorem drewBx (w : World) : Below w.heap.size w w.drew := ⟨rfl, rfl, rfl, Nat.le_refl _, fun _ _ => rfl⟩
theorem Wrote.undrew {T : TypeId} {B b : Nat} {X : Nat → Prop} {xs : List Int} {w w' : World} (h : Wrote T B X b xs w.drew w') : Wrote T B X b xs w w' := ⟨h.1, ⟨h.2.os, h.2.tape, h.2.output, h.2.size, h.2.block⟩⟩
theorem inR_f (r : Int) : smxml_isInCharacterRange.f r = some (decide (inR r)) := by
 unfold smxml_isInCharacterRange.f inR
 repeat' split
 all_goals
  congr 1
  first | (symm; apply decide_eq_true; omega) | (symm; apply decide_eq_false; omega) | (apply decide_eq_decide.2; omega)
theorem seg_app' (ss : List Int) (a i k : Nat) (h : a ≤ i) : (ss.drop a).take (i - a) ++ (ss.drop i).take k = (ss.drop a).take (i + k - a) := by
 have e : i + k - a = (i - a) + k := by omega
 rw [e, List.take_add, List.drop_drop, show a + (i - a) = i by omega]

end H
end Go.Proofs.YtkihaebaccdjdaaGreatDoor
