import Derived.Test.YtclmjmfcggkpaaaGreatDoorM24
set_option linter.unusedVariables false
set_option linter.unusedSimpArgs false
namespace Go.Proofs.YtclmjmfcggkpaaaGreatDoor
open Go.RowKit Go.Proofs.YtclmjmfcggkpaaaGreatDoorW.PrintWords Go.Proofs.YtclmjmfcggkpaaaGreatDoorW.PrintLast Go.Proofs.YtclmjmfcggkpaaaGreatDoorW.PrintMore
open PX
namespace HH
open H
/-! ### A header of a number; where a field goes -/
theorem heap_below {w w' : World} (hb : Below w.heap.size w w') {k : Nat} {o : Obj} (h : w.heap[k]? = some o) : w'.heap[k]? = some o := (hb.block k (lt_of h)).trans h
def PutE (B : Nat) (X : Nat → Prop) (m n : Nat) (T : ByteArray → Option (List ByteArray)) (w : World) (e : Ending) (w' : World) : Prop :=
  e = .returned .nilIface ∧ HMq B X m (n + 1) T w' ∧ Fr (fun k => B ≤ k ∧ ¬ X k) w w'
def hkey (wh : Int) (pre key : ByteArray) : ByteArray := if 5 ≤ wh then pre ++ key else key
set_option maxHeartbeats 400000 in
set_option maxRecDepth 100000 in
theorem inHdr5 {B : Nat} {X : Nat → Prop} {m n : Nat} {T : ByteArray → Option (List ByteArray)} {w : World} (H : MapIn B X m n T w) (hT : Pow w) (key : ByteArray) (add : Bool) (text : ByteArray) (num : Int) (hn : -9223372036854775808 ≤ num ∧ num ≤ 9223372036854775807) (hs : text.size ≤ 2147483647) (wh : Int) (pre key' : ByteArray) :
    Calls Tryz.prog 75 #[HV m key add, FV wh pre key' 5 text num] w (PutP B X m n (putT T key (decS num) add) w) := by
  replace H := Aside0.mk H
  replace hT := Aside0.mk hT
  replace hn := Aside0.mk hn
  unfold HV FV
  go_enter Tryz.func75, Tryz.ntmps75
  go_wp2_with fail
  have hb := below_alloc (below_alloc (Below.refl w.heap.size w) (.cells #[.map (some m), .string key, .bool add] 125)) (.cells #[.int .i64 wh, .string pre, .string key', .int .i64 5, .string text, .int .i64 num] 48)
  have hsz : ((w.alloc (.cells #[.map (some m), .string key, .bool add] 125)).alloc (.cells #[.int .i64 wh, .string pre, .string key', .int .i64 5, .string text, .int .i64 num] 48)).heap.size = w.heap.size + 1 + 1 := by simp
  generalize (w.alloc (.cells #[.map (some m), .string key, .bool add] 125)).alloc (.cells #[.int .i64 wh, .string pre, .string key', .int .i64 5, .string text, .int .i64 num] 48) = w1 at *
  have hc := hlong_call (H.out.calm hb) key add (hT.out.below hb) num hn.out.1 hn.out.2
  unfold HV at hc
  refine hc.mono ?_
  rintro e w' ⟨rfl, h1, h2⟩
  go_wp2
  refine bodyPost_end (results_none rfl _ _ _) rfl ?_
  exact PutP.from hb ⟨rfl, h1, h2⟩ (fun _ _ h => h) H.out.low
end HH
end Go.Proofs.YtclmjmfcggkpaaaGreatDoor
set_option linter.unusedVariables false
set_option linter.unusedSimpArgs false
namespace Go.Proofs.YtclmjmfcggkpaaaGreatDoor
open Go.RowKit Go.Proofs.YtclmjmfcggkpaaaGreatDoorW.PrintWords Go.Proofs.YtclmjmfcggkpaaaGreatDoorW.PrintLast Go.Proofs.YtclmjmfcggkpaaaGreatDoorW.PrintMore
open PX
namespace HH
open H
/-! ### strings.TrimSpace of a text without spaces -/
def Spc (w : World) : Prop := ∀ c : Nat, 33 ≤ c → c < 127 → w.cell? ⟨0, c, none⟩ = some (.int .u8 0)
theorem Spc.lt {w : World} (h : Spc w) : 0 < w.heap.size := World.block_lt_of_cell? w _ (h 40 (by omega) (by omega))
theorem Spc.below {w w1 : World} (h : Spc w) {B : Nat} (hb : Below B w w1) (hB : 0 < B) : Spc w1 := fun c hc hd => by rw [hb.cell (p := ⟨0, c, none⟩) hB]; exact h c hc hd
theorem Spc.calm {w w1 : World} (h : Spc w) (hb : Below w.heap.size w w1) : Spc w1 := h.below hb h.lt
def noSp (s : ByteArray) : Prop := ∀ i : Nat, i < s.size → 33 ≤ bt s i ∧ bt s i < 127
set_option maxHeartbeats 1000000 in
set_option maxRecDepth 100000 in
theorem trim_call (s : ByteArray) (w : World) (hS : Spc w) (hn : noSp s) (hs : s.size ≤ 1099511627776) :
    Calls Tryz.prog 123 #[.string s] w fun e w' => e = .returned (.string s) ∧ Below w.heap.size w w' := by
  have hcv := fun (w : World) (s : ByteArray) => Lib.run_convert_string_bytes (P := Tryz.prog) w 9 104 5 s (u := .string) Tryz.underlying9 Tryz.underlying104 Tryz.underlying5
  replace hS := Aside0.mk hS
  go_enter Tryz.func123, Tryz.ntmps123
  go_wp2_with fail
  have hb1 := bytesWorld_below w s
  have ha1 := BAt.of_string w s
  rw [← strZs_length w s]
  have ht1 := strZs_take w s
  have hc1 : (strZs w s).length ≤ 9223372036854775807 := by rw [strZs_length]; have := grownCap_le_maxLen w s.size 0 5 (by unfold maxLen; omega); unfold maxLen at this; omega
  generalize strZs w s = z1 at *
  generalize Lib.bytesWorld w 5 s = w1 at *
  replace hb1 := Aside0.mk hb1
  rcases Nat.eq_zero_or_pos s.size with h0 | h0
  · have he : s = ⟨#[]⟩ := by
      have hd : s.data.size = 0 := h0
      obtain ⟨d⟩ := s
      simp at hd
      rw [hd]
    refine wp_loop_rounds 1 ?_
    rw [rounds_succ]
    have hlt : ¬ ((0 : Int) < (s.size : Int)) := by omega
    go_wp2
    go_ret
    exact ⟨rfl, hb1.out⟩
  · have hz : s.size ≤ z1.length := by
      have := congrArg List.length ht1
      simp [bytesOf_length] at this; omega
    have hx := ha1.cell 0 (by omega)
    have e0 : z1.getD 0 0 = bt s 0 := by
      have h1 : z1.getD 0 0 = (z1.take s.size).getD 0 0 := by
        rw [List.getD_eq_getElem?_getD, List.getD_eq_getElem?_getD, List.getElem?_take, if_pos (by omega)]
      rw [h1, ht1]
      exact rd_bytesOf s 0
    rw [e0] at hx
    have g0 : 33 ≤ bt s 0 ∧ bt s 0 < 127 := hn 0 h0
    have g1 := hn (s.size - 1) (by omega)
    have hS1 := hS.out.calm hb1.out
    have hy0 := hS1 (bt s 0).toNat (by omega) (by omega)
    have hlt1 : s.size - 1 < s.size := by omega
    have hbt : ((s[s.size - 1]'hlt1).toNat : Int) = bt s ((s.size - 1 : Nat) : Int) := bt_at s ((s.size - 1 : Nat) : Int) hlt1
    have q0 : bt s 0 < 128 := by omega
    have q1 : ((s[s.size - 1]'hlt1).toNat : Int) < 128 := by omega
    have q2 : (s[s.size - 1]'hlt1).toNat < 128 := by omega
    have q4 : (1 : Int) ≤ (s.size : Int) := by omega
    have hy1 := hS1 (s[s.size - 1]'hlt1).toNat (by omega) (by omega)
    clear hbt
    have hext : s.extract 0 s.size = s := by simp
    have htn : ((s.size : Int) - 1).toNat < s.size := by omega
    have ht2 : ((s.size : Int) - 1 + 1).toNat = s.size := by omega
    replace ha1 := Aside0.mk ha1
    clear hS1 ht1
    refine wp_loop_rounds 1 ?_
    rw [rounds_succ]
    go_wp2_with fail
    refine wp_loop_rounds 1 ?_
    rw [rounds_succ]
    go_wp2
    go_ret
    exact ⟨rfl, hb1.out⟩
end HH
end Go.Proofs.YtclmjmfcggkpaaaGreatDoor
set_option linter.unusedVariables false
set_option linter.unusedSimpArgs false
namespace Go.Proofs.YtclmjmfcggkpaaaGreatDoor
open Go.RowKit Go.Proofs.YtclmjmfcggkpaaaGreatDoorW.PrintWords Go.Proofs.YtclmjmfcggkpaaaGreatDoorW.PrintLast Go.Proofs.YtclmjmfcggkpaaaGreatDoorW.PrintMore
open PX
namespace HH
open H
/-! ### Header values of an encoder -/
set_option maxHeartbeats 400000 in
set_option maxRecDepth 100000 in
theorem newHV_call (m : Nat) (key : ByteArray) (add : Bool) (w : World) (hS : Spc w) (hk : noSp key) (hz : key.size ≤ 1099511627776) :
    Calls Tryz.prog 122 #[.map (some m), .string key, .bool add] w fun e w' => e = .returned (HV m key add) ∧ Below w.heap.size w w' := by
  replace hS := Aside0.mk hS
  go_enter Tryz.func122, Tryz.ntmps122
  go_wp2_with fail
  have hu := heap_new w (.cells #[.map none, .string ⟨#[]⟩, .bool false] 125)
  have hb1 := below_alloc (Below.refl w.heap.size w) (.cells #[.map none, .string ⟨#[]⟩, .bool false] 125)
  generalize w.alloc (.cells #[.map none, .string ⟨#[]⟩, .bool false] 125) = w1 at *
  refine (trim_call key w1 (hS.out.calm hb1) hk hz).mono ?_
  rintro e w2 ⟨rfl, hb⟩
  have h := heap_below hb hu
  have hF := Aside0.mk (below_then hb1 hb1.size hb)
  generalize hub : w.heap.size = ub at *
  have e0 := cell_at h 0; have e1 := cell_at h 1; have e2 := cell_at h 2
  have d0 := free_of h 0; have d1 := free_of h 1; have d2 := free_of h 2
  simp at e0 e1 e2
  clear h hu hb hb1
  go_wp2
  (try simp only [Exit.inBlock, Exit.then])
  refine bodyPost_ret (v := HV m key add) ?_ rfl ⟨rfl, ?_⟩
  · simp only [results, HV]; go_simp
  · subst hub
    exact ((hF.out.setCell (p := ⟨w.heap.size, 0, none⟩) (Nat.le_refl _) _).setCell (p := ⟨w.heap.size, 1, none⟩) (Nat.le_refl _) _).setCell (p := ⟨w.heap.size, 2, none⟩) (Nat.le_refl _) _
set_option maxHeartbeats 400000 in
set_option maxRecDepth 100000 in
theorem setHdr_call (eb m : Nat) (key : ByteArray) (w : World) (hS : Spc w) (hk : noSp key) (hz : key.size ≤ 1099511627776) (he : w.cell? ⟨eb, 4, none⟩ = some (.map (some m))) :
    Calls Tryz.prog 76 #[.pointer (some ⟨eb, 0, none⟩), .string key] w fun e w' => e = .returned (HV m key false) ∧ Below w.heap.size w w' := by
  replace hS := Aside0.mk hS
  have hlt := World.block_lt_of_cell? w _ he
  go_enter Tryz.func76, Tryz.ntmps76
  go_wp2_with fail
  have hu := heap_new w (.cells #[.map none, .string ⟨#[]⟩, .bool false] 125)
  have hb1 := below_alloc (Below.refl w.heap.size w) (.cells #[.map none, .string ⟨#[]⟩, .bool false] 125)
  have he1 := pw_cell_below hb1 he
  generalize w.alloc (.cells #[.map none, .string ⟨#[]⟩, .bool false] 125) = w1 at *
  go_wp2_with fail
  refine (newHV_call m key false w1 (hS.out.calm hb1) hk hz).mono ?_
  unfold HV
  rintro e w2 ⟨rfl, hb⟩
  have h := heap_below hb hu
  have hF := Aside0.mk (below_then hb1 hb1.size hb)
  generalize hub : w.heap.size = ub at *
  have e0 := cell_at h 0; have e1 := cell_at h 1; have e2 := cell_at h 2
  have d0 := free_of h 0; have d1 := free_of h 1; have d2 := free_of h 2
  simp at e0 e1 e2
  clear h hu hb hb1
  go_wp2
  (try simp only [Exit.inBlock, Exit.then])
  refine bodyPost_ret (v := HV m key false) ?_ rfl ⟨rfl, ?_⟩
  · simp only [results, HV]; go_simp
  · subst hub
    exact ((hF.out.setCell (p := ⟨w.heap.size, 0, none⟩) (Nat.le_refl _) _).setCell (p := ⟨w.heap.size, 1, none⟩) (Nat.le_refl _) _).setCell (p := ⟨w.heap.size, 2, none⟩) (Nat.le_refl _) _
end HH
end Go.Proofs.YtclmjmfcggkpaaaGreatDoor
