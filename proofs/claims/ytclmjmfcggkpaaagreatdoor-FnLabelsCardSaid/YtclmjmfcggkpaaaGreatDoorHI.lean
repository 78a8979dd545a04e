import Derived.Test.YtclmjmfcggkpaaaGreatDoorPA
import Derived.Test.YtclmjmfcggkpaaaGreatDoorPXx177
import Derived.Test.YtclmjmfcggkpaaaGreatDoorHF
set_option linter.unusedVariables false
set_option linter.unusedSimpArgs false
namespace Go.Proofs.YtclmjmfcggkpaaaGreatDoor
open Go.RowKit Go.Proofs.YtclmjmfcggkpaaaGreatDoorW.PrintWords Go.Proofs.YtclmjmfcggkpaaaGreatDoorW.PrintLast Go.Proofs.YtclmjmfcggkpaaaGreatDoorW.PrintMore
open PX
namespace H
/-! ### A text cut at a byte -/
theorem cutL_eq (s : ByteArray) (c : Int) (hs : s.size ≤ 2147483647) : ∀ (n k i : Nat), k + n = i → i ≤ s.size → (∀ j : Nat, j < i → bt s j ≠ c) → (i < s.size → bt s i = c) → ∀ F, n + 1 ≤ F →
    spec_cut.l0 F s c (s.size : Int) (k : Int) = some (if i < s.size then (s.extract 0 i, s.extract (i + 1) s.size, true) else (s, ⟨#[]⟩, false)) := by
  intro n
  induction n with
  | zero =>
    intro k i hk hle hno hat F hF
    obtain rfl : k = i := by omega
    match F, hF with
    | F + 1, _ =>
      rw [spec_cut.l0]
      by_cases hlt : k < s.size
      · rw [if_pos (by omega), if_pos (by omega), if_pos (by omega), if_pos (hat hlt), if_pos (by omega), wr1 k s.size hlt (by omega), if_pos (by omega), if_pos (by omega), if_pos hlt]
        rfl
      · rw [if_neg (by omega), if_neg hlt]
  | succ n ih =>
    intro k i hk hle hno hat F hF
    match F, hF with
    | F + 1, hF =>
      rw [spec_cut.l0, if_pos (by omega), if_pos (by omega), if_pos (by omega), if_neg (hno k (by omega)), wr1 k s.size (by omega) (by omega)]
      exact ih (k + 1) i (by omega) hle hno hat F (by omega)
/-- The parts of a text between such bytes. -/
def splitL (c : Int) : List Int → List (List Int)
  | [] => [[]]
  | x :: xs => if x = c then [] :: splitL c xs else match splitL c xs with
    | p :: ps => (x :: p) :: ps
    | [] => [[x]]
theorem splitL_ne (c : Int) (l : List Int) : splitL c l ≠ [] := by
  cases l with
  | nil => simp [splitL]
  | cons x xs => simp only [splitL]; split; simp; split <;> simp
theorem splitL_no {c : Int} {l : List Int} (h : ∀ x ∈ l, x ≠ c) : splitL c l = [l] := by
  induction l with
  | nil => rfl
  | cons x xs ih =>
    simp only [splitL]
    rw [if_neg (h x (by simp)), ih (fun y hy => h y (by simp [hy]))]
theorem splitL_at {c : Int} {a b : List Int} (h : ∀ x ∈ a, x ≠ c) : splitL c (a ++ c :: b) = a :: splitL c b := by
  induction a with
  | nil => simp [splitL]
  | cons x xs ih =>
    simp only [List.cons_append, splitL]
    rw [if_neg (h x (by simp)), ih (fun y hy => h y (by simp [hy]))]
theorem splitL_len (c : Int) (l : List Int) : (splitL c l).length ≤ l.length + 1 := by
  induction l with
  | nil => simp [splitL]
  | cons x xs ih =>
    simp only [splitL, List.length_cons]
    split
    · simp; omega
    · split
      · rename_i p ps e
        rw [e] at ih
        simp at ih ⊢
        omega
      · simp
/-- Joined again, a byte ahead of each part. -/
theorem splitL_join (c : Int) (l : List Int) : (splitL c l).flatMap (c :: ·) = c :: l := by
  induction l with
  | nil => simp [splitL]
  | cons x xs ih =>
    simp only [splitL]
    split
    · rename_i e
      subst e
      simp [ih]
    · split
      · rename_i p ps e
        rw [e] at ih
        simp at ih ⊢
        exact ih
      · rename_i e
        exact absurd e (splitL_ne c xs)
theorem splitL_mem {c : Int} {l p : List Int} (h : p ∈ splitL c l) : (∀ x ∈ p, x ≠ c ∧ x ∈ l) := by
  induction l generalizing p with
  | nil =>
    simp [splitL] at h
    subst h
    simp
  | cons y ys ih =>
    simp only [splitL] at h
    split at h
    · rcases List.mem_cons.1 h with rfl | h
      · simp
      · intro x hx
        obtain ⟨h1, h2⟩ := ih h x hx
        exact ⟨h1, by simp [h2]⟩
    · rename_i hy
      split at h
      · rename_i q qs e
        rcases List.mem_cons.1 h with rfl | h
        · intro x hx
          rcases List.mem_cons.1 hx with rfl | hx
          · exact ⟨hy, by simp⟩
          · obtain ⟨h1, h2⟩ := ih (by rw [e]; simp) x hx
            exact ⟨h1, by simp [h2]⟩
        · intro x hx
          obtain ⟨h1, h2⟩ := ih (by rw [e]; simp [h]) x hx
          exact ⟨h1, by simp [h2]⟩
      · rename_i e
        exact absurd e (splitL_ne c ys)
def partsB (c : Int) (s : ByteArray) : List ByteArray := (splitL c (bytesOf s)).map strOfNums
theorem fst_at (s : ByteArray) (c : Int) : ∃ i, i ≤ s.size ∧ (∀ j : Nat, j < i → bt s j ≠ c) ∧ (i < s.size → bt s i = c) := by
  have : ∀ (n k : Nat), k + n = s.size → (∀ j : Nat, j < k → bt s j ≠ c) → ∃ i, i ≤ s.size ∧ (∀ j : Nat, j < i → bt s j ≠ c) ∧ (i < s.size → bt s i = c) := by
    intro n
    induction n with
    | zero => intro k hk hn; exact ⟨k, by omega, hn, fun h => by omega⟩
    | succ n ih =>
      intro k hk hn
      by_cases h : bt s k = c
      · exact ⟨k, by omega, hn, fun _ => h⟩
      · refine ih (k + 1) (by omega) (fun j hj => ?_)
        rcases Nat.lt_or_ge j k with h1 | h1
        · exact hn j h1
        · obtain rfl : j = k := by omega
          exact h
  exact this s.size 0 (by omega) (fun j hj => by omega)
theorem bytes_at (s : ByteArray) (k : Nat) (h : k < s.size) : (bytesOf s)[k]'(by rw [bytesOf_length]; exact h) = bt s k := by
  have := drop_bt s k h
  rw [List.drop_eq_getElem_cons (by rw [bytesOf_length]; exact h)] at this
  exact (List.cons.inj this).1
theorem split_eq' (c : Int) : ∀ (n : Nat) (s : ByteArray) (acc : List ByteArray), s.size ≤ n → s.size ≤ 2147483647 → acc.length + s.size ≤ 8000000000000 → ∀ F, s.size + 2 ≤ F →
    spec_split.l0 F s c acc = some (acc ++ partsB c s) := by
  intro n
  induction n with
  | zero =>
    intro s acc hn hs hacc F hF
    match F, hF with
    | F + 1, hF =>
      have h0 : s.size = 0 := by omega
      have hl : bytesOf s = [] := List.length_eq_zero_iff.1 (by rw [bytesOf_length]; exact h0)
      have hc : spec_cut.l0 F s c (s.size : Int) 0 = _ := cutL_eq s c hs 0 0 0 rfl (by omega) (fun j hj => by omega) (fun h => by omega) F (by omega)
      rw [spec_split.l0, spec_cut.f, hc, if_neg (by omega)]
      simp only [Option.bind_some, Bool.false_eq_true, if_false]
      rw [if_pos (by omega)]
      have e : strOfNums [] = s := by rw [← hl, strOf_bytesOf]
      simp [partsB, hl, splitL, e]
  | succ n ih =>
    intro s acc hn hs hacc F hF
    match F, hF with
    | F + 1, hF =>
      obtain ⟨i, hi, hno, hat⟩ := fst_at s c
      have hc : spec_cut.l0 F s c (s.size : Int) 0 = _ := cutL_eq s c hs i 0 i (by omega) hi hno hat F (by omega)
      have hbl := bytesOf_length s
      have hpre : ∀ x ∈ (bytesOf s).take i, x ≠ c := by
        intro x hx
        obtain ⟨j, hj, rfl⟩ := List.mem_iff_getElem.1 hx
        simp only [List.length_take] at hj
        rw [List.getElem_take, bytes_at s j (by omega)]
        exact hno j (by omega)
      rw [spec_split.l0, spec_cut.f, hc]
      by_cases hlt : i < s.size
      · rw [if_pos hlt]
        simp only [Option.bind_some, if_true]
        rw [if_pos (by omega)]
        have hz : (s.extract (i + 1) s.size).size = s.size - (i + 1) := by simp
        rw [ih _ _ (by omega) (by omega) (by simp; omega) F (by omega)]
        have e1 : bytesOf (s.extract 0 i) = (bytesOf s).take i := by rw [bytes_ext]; simp
        have e2 : bytesOf (s.extract (i + 1) s.size) = (bytesOf s).drop (i + 1) := by
          rw [bytes_ext, List.take_of_length_le (by rw [List.length_drop, hbl]; omega)]
        have e3 : bytesOf s = (bytesOf s).take i ++ c :: (bytesOf s).drop (i + 1) := by
          conv => lhs; rw [← List.take_append_drop i (bytesOf s)]
          rw [drop_bt s i hlt, hat hlt]
        have e4 : partsB c s = s.extract 0 i :: partsB c (s.extract (i + 1) s.size) := by
          unfold partsB
          rw [e2]
          conv => lhs; rw [e3]
          rw [splitL_at hpre, List.map_cons, ← e1, strOf_bytesOf]
        rw [e4]
        simp
      · rw [if_neg hlt]
        simp only [Option.bind_some, Bool.false_eq_true, if_false]
        rw [if_pos (by omega)]
        have e5 : (bytesOf s).take i = bytesOf s := List.take_of_length_le (by omega)
        rw [e5] at hpre
        simp [partsB, splitL_no hpre, strOf_bytesOf]
theorem split_call (s : ByteArray) (c : Int) (w : World) (hs : s.size ≤ 2147483647) :
    Calls Tryz.prog 50 #[.string s, .int .u8 c] w fun e w' => ∃ v0_ : Value, e = .returned (v0_) ∧ Kd.R Kd.string 9 w' w.heap.size (fun _ => True) v0_ (partsB c s) ∧ Below w.heap.size w w' :=
  spec_split.calls (s.size + 2) s c _ w (by have := split_eq' c s.size s [] (Nat.le_refl _) hs (by simp; omega) (s.size + 2) (Nat.le_refl _); simpa [spec_split.f] using this)
/-! ### Literals -/
def litL (l : List Int) : Bool := l.all unres
theorem unresS_eq' (c : Int) : spec_isUnreserved.f c = some (unres c) := by
  unfold spec_isUnreserved.f unres
  repeat' split
  all_goals (congr 1; rw [Bool.eq_iff_iff]; simp; try omega)
theorem isLit_from (s : ByteArray) (hs : s.size ≤ 140737488355328) : ∀ (n k : Nat), n = s.size - k → k ≤ s.size → ∀ F, n + 1 ≤ F →
    spec_isLiteral.l0 F s (s.size : Int) (k : Int) = some (litL ((bytesOf s).drop k)) := by
  intro n
  induction n with
  | zero =>
    intro k hn hk F hF
    obtain rfl : k = s.size := by omega
    match F, hF with
    | F + 1, _ =>
      rw [spec_isLiteral.l0, if_neg (by omega), List.drop_of_length_le (by rw [bytesOf_length]; exact Nat.le_refl _)]
      rfl
  | succ n ih =>
    intro k hn hk F hF
    have hlt : k < s.size := by omega
    match F, hF with
    | F + 1, hF =>
      have IH := ih (k + 1) (by omega) (by omega) F (by omega)
      rw [drop_bt s k hlt, spec_isLiteral.l0, if_pos (by omega), if_pos (by omega), if_pos (by omega), unresS_eq', wr1 k s.size hlt hs]
      simp only [Option.bind_some, IH, litL, List.all_cons]
      cases unres (bt s (k : Int)) <;> simp
theorem isLit_call (s : ByteArray) (w : World) (hs : s.size ≤ 140737488355328) : Calls Tryz.prog 65 #[.string s] w fun e w' => e = .returned (.bool (litL (bytesOf s))) ∧ Drawn0 w w' :=
  spec_isLiteral.calls (s.size + 1) s _ w (by have := isLit_from s hs s.size 0 (by omega) (by omega) (s.size + 1) (Nat.le_refl _); simpa [spec_isLiteral.f] using this)
def hasS (n : ByteArray) (l : List ByteArray) : Bool := l.any (fun o => decide (o = n))
theorem hasS_iff {n : ByteArray} {l : List ByteArray} : hasS n l = true ↔ n ∈ l := by
  simp [hasS]
/-- The names of the labels, behind those of out; none where the path is not one of labels, each once, and literals. -/
def labelsGo (out : List ByteArray) : List ByteArray → Option (List ByteArray)
  | [] => some out
  | p :: ps => if (labelB p).2.2 then (if hasS (labelB p).1 out then none else labelsGo (out ++ [(labelB p).1]) ps) else if litL (bytesOf p) then labelsGo out ps else none
def labelsB (path : ByteArray) : Option (List ByteArray) :=
  if path.size = 0 ∨ bt path 0 ≠ 47 ∨ 1000 < path.size then none else labelsGo [] (partsB 47 (path.extract 1 path.size))
end H
end Go.Proofs.YtclmjmfcggkpaaaGreatDoor
set_option linter.unusedVariables false
set_option linter.unusedSimpArgs false
namespace Go.Proofs.YtclmjmfcggkpaaaGreatDoor
open Go.RowKit Go.Proofs.YtclmjmfcggkpaaaGreatDoorW.PrintWords Go.Proofs.YtclmjmfcggkpaaaGreatDoorW.PrintLast Go.Proofs.YtclmjmfcggkpaaaGreatDoorW.PrintMore
open PX
namespace H
/-- What spec.Labels gives. -/
def LabP (r : Option (List ByteArray)) (w : World) (e : Ending) (w' : World) : Prop :=
  Below w.heap.size w w' ∧ match r with
  | none => e = .returned (.tuple #[.slice none 0 0, .bool false])
  | some l => ∃ v, e = .returned (.tuple #[v, .bool true]) ∧ Kd.R Kd.string 9 w' w.heap.size (fun _ => True) v l
theorem labP_none {w : World} {e : Ending} {w' : World} (hb : Below w.heap.size w w') (he : e = .returned (.tuple #[.slice none 0 0, .bool false])) : LabP none w e w' := ⟨hb, he⟩
theorem labP_some {l : List ByteArray} {w : World} {e : Ending} {w' : World} {v : Value} (hb : Below w.heap.size w w') (hr : Kd.R Kd.string 9 w' w.heap.size (fun _ => True) v l) (he : e = .returned (.tuple #[v, .bool true])) : LabP (some l) w e w' := ⟨hb, v, he, hr⟩
theorem str_beq (a b : ByteArray) : (a.toList == b.toList) = decide (a = b) := by
  rw [ByteArray.toList_eq, ByteArray.toList_eq]
  by_cases h : a = b
  · subst h; simp
  · rw [decide_eq_false h, beq_eq_false_iff_ne]
    intro e
    exact h (by cases a; cases b; congr 1; exact Array.ext' e)
theorem rdOf_get (l : List ByteArray) (k : Nat) (h : k < l.length) : l[k]? = some (rdOf ByteArray.empty l (k : Int)) := by simp [rdOf, List.getElem?_eq_getElem h, h]
theorem parts_len (c : Int) (s : ByteArray) : (partsB c s).length ≤ s.size + 1 := by
  have := splitL_len c (bytesOf s)
  rw [bytesOf_length] at this
  simpa [partsB] using this
theorem parts_size {c : Int} {s p : ByteArray} (h : p ∈ partsB c s) : p.size ≤ s.size := by
  obtain ⟨q, hq, rfl⟩ := List.mem_map.1 h
  have hj := splitL_join c (bytesOf s)
  have : ∀ (L : List (List Int)), q ∈ L → q.length + 1 ≤ (L.flatMap (c :: ·)).length := by
    intro L
    induction L with
    | nil => intro h; cases h
    | cons x L ih =>
      intro h
      simp only [List.flatMap_cons, List.length_append, List.length_cons]
      rcases List.mem_cons.1 h with rfl | h
      · omega
      · have := ih h; omega
  have h2 := this _ hq
  rw [hj] at h2
  simp only [List.length_cons, bytesOf_length] at h2
  rw [strOfNums_size]
  omega
set_option maxHeartbeats 1000000 in
set_option maxRecDepth 100000 in
theorem labels_call (path : ByteArray) (w : World) (hs : path.size ≤ 2147483647) : Calls Tryz.prog 41 #[.string path] w (LabP (labelsB path) w) := by
  unfold labelsB
  by_cases h0 : path.size = 0
  · rw [if_pos (.inl h0)]
    have hn : path.toList = [] := (toList_nil path).2 h0
    have h1 : path.toList.isEmpty = true := by rw [hn]; rfl
    have h2 : (path.toList == []) = true := by rw [hn]; rfl
    clear hn
    go_enter Tryz.func41, Tryz.ntmps41
    go_wp2
    go_ret2
    exact labP_none (Below.refl _ _) rfl
  · have hn : path.toList ≠ [] := by rw [Ne, toList_nil]; exact h0
    have h1 : path.toList.isEmpty = false := by simpa using hn
    have hx0 := bt_at path 0
    simp only [Int.toNat_zero] at hx0
    replace hx0 := hx0 (by omega)
    by_cases h47 : bt path 0 = 47
    · rw [h47] at hx0
      by_cases hlen : 1000 < path.size
      · rw [if_pos (.inr (.inr hlen))]
        have hl2 : decide (1000 < (path.size : Int)) = true := decide_eq_true (by omega)
        clear h47
        go_enter Tryz.func41, Tryz.ntmps41
        go_wp2
        go_ret2
        exact labP_none (Below.refl _ _) rfl
      · rw [if_neg (by omega)]
        have hl2 : decide (1000 < (path.size : Int)) = false := decide_eq_false (by omega)
        clear h47
        have hlen2 : path.size ≤ 1000 := by omega
        have hz : (path.extract 1 path.size).size ≤ 1000 := by simp; omega
        have hpl := parts_len 47 (path.extract 1 path.size)
        have hps : Aside0 (∀ p ∈ partsB 47 (path.extract 1 path.size), p.size ≤ 1000) := ⟨fun p hp => Nat.le_trans (parts_size hp) hz⟩
        have hpl2 : (partsB 47 (path.extract 1 path.size)).length ≤ 1001 := by omega
        clear hpl hlen
        generalize hr : labelsGo [] (partsB 47 (path.extract 1 path.size)) = r
        replace hr := Aside0.mk hr
        go_enter Tryz.func41, Tryz.ntmps41
        go_wp2_with (first | ((with_reducible refine gate_dst (N := 24) rfl ?_); refine Kd.R_lit Kd.string _ 9 ?hg (N := 24) ?hd (xs := ([] : List ByteArray)) (inner := []) (ok := fun _ => True) (okp := fun _ => True) ?hr ?hp (fun _ hk => hk) trivial (Below.refl _ _) (Nat.le_refl _) (by simp) ?_; (case hd => rfl); (case hg => rfl); (case hr => first | (go_simp; done) | (go_simp; rfl)); (case hp => exact (Reps.none _ _)); intro va w1 hoa hba hg_ hnew_; clear hg_ hnew_; replace hoa := Aside0.mk hoa; replace hba := Aside0.mk hba) | ((go_at_call 50; refine (split_call (path.extract 1 path.size) 47 _ (by omega)).mono ?_; rintro e w2 ⟨vp, rfl, hop, hbp⟩; replace hop := Aside0.mk hop; replace hbp := Aside0.mk hbp; obtain ⟨Ap, cp, ep⟩ := Kd.R_slice hop.out; subst ep)))
        generalize partsB 47 (path.extract 1 path.size) = parts at *
        have hb12 : Below w.heap.size w w2 := below_then hba.out hba.out.size hbp.out
        have hoa2 := Kd.R_below hoa.out hbp.out
        have hop2 := Kd.R_lower hop.out hba.out.size
        have hne : ∀ k, va.ownBlock = some k → some k ≠ (Value.slice Ap parts.length cp).ownBlock := fun k hk he => by
          obtain ⟨i1, h1⟩ := Kd.R_own hoa.out
          obtain ⟨i2, h2⟩ := Kd.R_own hop.out
          have := own_lt h1 k hk
          have := own_base h2 k he.symm
          omega
        have HA := Aside0.mk hoa2
        have HP := Aside0.mk hop2
        have HN := Aside0.mk hne
        have HB := Aside0.mk hb12
        clear hb12 hoa2 hop2 hne hoa hba hop hbp
        go_loopg [4, 29] parts.length (fun g v4 v29 w' => ∃ (k : Nat) (acc : List ByteArray), k ≤ parts.length ∧ v29 = .int .i64 k ∧ Aside0 (g = parts.length - k) ∧ Aside0 (labelsGo acc (parts.drop k) = r) ∧ Aside0 (acc.length ≤ k) ∧ Aside0 (Kd.R Kd.string 9 w' w.heap.size (fun _ => True) v4 acc) ∧
          Aside0 (Kd.R Kd.string 9 w' w.heap.size (fun _ => True) (.slice Ap parts.length cp) parts) ∧ Aside0 (∀ k, v4.ownBlock = some k → some k ≠ (Value.slice Ap parts.length cp).ownBlock) ∧ Aside0 (Below w.heap.size w w'))
        case atStart => exact ⟨0, [], Nat.zero_le _, rfl, ⟨by omega⟩, ⟨by simpa using hr.out⟩, ⟨by simp⟩, HA, HP, HN, HB⟩
        case round =>
          clear HA HP HN HB hr
          obtain ⟨k, acc, hk, rfl, hg, hr, hal, HA, HP, HN, HB⟩ := hrel
          obtain ⟨wo, rfl⟩ : ∃ wo : World, wo = wr := ⟨_, rfl⟩
          rcases Nat.lt_or_ge k parts.length with hlt | hge
          · obtain ⟨ad, hA, hx⟩ := Kd.at_string (Kd.R_reads' HP.out).2.2 (k : Int) (by omega) (by omega)
            cases hA
            simp only [Int.toNat_natCast] at hx
            have hpk := rdOf_get parts k hlt
            have hps' := hps.out _ (List.mem_of_getElem? hpk)
            have hdr : parts.drop k = rdOf ByteArray.empty parts (k : Int) :: parts.drop (k + 1) := by
              rw [List.drop_eq_getElem_cons hlt]
              congr 1
              rw [List.getElem?_eq_getElem hlt] at hpk
              exact Option.some.inj hpk
            have hgo := hr.out
            rw [hdr] at hgo
            simp only [labelsGo] at hgo
            clear hpk hdr hr
            generalize rdOf ByteArray.empty parts (k : Int) = p at *
            have hlc := fun w => label_call p w (by omega)
            have hic := fun w => isLit_call p w (by omega)
            generalize hL : labelB p = lb at *
            obtain ⟨nm, gr, ok⟩ := lb
            simp only at hlc hgo
            replace hL := Aside0.mk hL
            replace hlc := Aside0.mk hlc
            cases ok with
            | true =>
              simp only [if_true] at hgo
              replace hgo := Aside0.mk hgo
              replace hic := Aside0.mk hic
              have hal2 : acc.length ≤ 1001 := by have := hal.out; omega
              obtain ⟨Aa, ca, ea⟩ := Kd.R_slice HA.out
              subst ea
              go_wp2_with (go_at_call 51; refine (hlc.out _).mono ?_; rintro e w3 ⟨rfl, ⟨nd, rfl⟩⟩)
              go_loopg [46] acc.length (fun g v46 w' => ∃ j : Nat, j ≤ acc.length ∧ v46 = .int .i64 j ∧ Aside0 (g = acc.length - j) ∧ Aside0 (∀ m : Nat, m < j → acc[m]? ≠ some nm) ∧ Aside0 (w' = wo.drewN nd))
              case atStart => exact ⟨0, Nat.zero_le _, rfl, ⟨by omega⟩, ⟨fun m hm => by omega⟩, ⟨rfl⟩⟩
              case round =>
                obtain ⟨j, hj, rfl, hg2, hno, hw⟩ := hrel
                have hw := hw.out
                subst hw
                rcases Nat.lt_or_ge j acc.length with hjl | hjg
                · obtain ⟨ad', hA, hy⟩ := Kd.at_string (Kd.R_reads' (Kd.R_drewN HA.out nd)).2.2 (j : Int) (by omega) (by omega)
                  cases hA
                  simp only [Int.toNat_natCast] at hy
                  have hej := rdOf_get acc j hjl
                  generalize rdOf ByteArray.empty acc (j : Int) = b at *
                  have hbq := str_beq b nm
                  replace hej := Aside0.mk hej
                  clear hx
                  by_cases e : b = nm
                  · rw [decide_eq_true e] at hbq
                    have hin : hasS nm acc = true := hasS_iff.2 (by rw [← e]; exact List.mem_of_getElem? hej.out)
                    have hrn : none = r := by have := hgo.out; rw [if_pos hin] at this; exact this
                    subst hrn
                    clear e
                    go_wp2
                    go_ret2
                    exact labP_none (pw_below_drewN HB.out _) rfl
                  · rw [decide_eq_false e] at hbq
                    have hno' : Aside0 (∀ m : Nat, m < j + 1 → acc[m]? ≠ some nm) := ⟨fun m hm => by
                      rcases Nat.lt_or_ge m j with h | h
                      · exact hno.out m h
                      · obtain rfl : m = j := by omega
                        rw [hej.out]
                        exact fun h => e (Option.some.inj h)⟩
                    go_wp2
                    go_roundg (acc.length - (j + 1))
                    case measure => have := hg2.out; omega
                    case rel => exact ⟨j + 1, by omega, by go_num, ⟨rfl⟩, hno', ⟨rfl⟩⟩
                · obtain rfl : j = acc.length := by omega
                  have hin : hasS nm acc = false := by
                    rw [Bool.eq_false_iff, Ne, hasS_iff]
                    intro h
                    obtain ⟨m, hm, e⟩ := List.mem_iff_getElem.1 h
                    exact hno.out m hm (by rw [List.getElem?_eq_getElem hm, e])
                  have hgo2 : Aside0 (labelsGo (acc ++ [nm]) (parts.drop (k + 1)) = r) := ⟨by have := hgo.out; rw [if_neg (by rw [hin]; simp)] at this; exact this⟩
                  clear hx
                  go_wp2_with ((with_reducible refine gate_builtin (b := .append) (xs := #[.tmp 54, .tmp 56]) rfl ?_); at_builtin; refine Kd.R_append Kd.string (w0 := w) w.heap.size rfl (.tmp 54) (.tmp 56) 67 9 (.string ⟨#[]⟩) 16 rfl Tryz.underlying67 info9 rfl (by decide) (by omega) (.slice Aa acc.length ca) acc nm [.string nm] (fun _ => True) (fun _ => False) rfl rfl ?aP (fun _ hk => hk.elim) ?aF ?aO ?aB ?aS ?aL ?_; (case aP => exact rfl); (case aB => exact pw_below_drewN HB.out _); (case aF => exact (fun _ _ => trivial)); (case aO => exact Kd.R_drewN HA.out _); (case aS => exact (pw_below_drewN HB.out _).size); (case aL => omega); intro v1 w5 ho hb5 hg5 hat5; have hp5 := Kd.R_grown2 (Kd.R_drewN HP.out nd) rfl hg5 (fun k hk => HN.out k hk); have hn5 := (show ∀ k, v1.ownBlock = some k → some k ≠ (Value.slice (some ad) parts.length cp).ownBlock from fun k hk he => by rcases hat5 with h | ⟨b, h, hb⟩; exact HN.out k (h.symm.trans hk) he; obtain ⟨i2, h2⟩ := Kd.R_own HP.out; have := own_lt h2 k he.symm; rw [h] at hk; injection hk with hk; subst hk; have hb' : wo.heap.size ≤ b := hb; omega); replace ho := Aside0.mk ho; replace hb5 := Aside0.mk hb5; replace hp5 := Aside0.mk hp5; replace hn5 := Aside0.mk hn5; clear hg5 hat5)
                  go_roundg (parts.length - (k + 1))
                  case measure => have := hg.out; omega
                  case rel => exact ⟨k + 1, acc ++ [nm], by omega, by go_num, ⟨rfl⟩, hgo2, ⟨by have := hal.out; simp; omega⟩, ho, hp5, hn5, hb5⟩
            | false =>
              simp only [Bool.false_eq_true, if_false] at hgo
              replace hgo := Aside0.mk hgo
              cases hlit : litL (bytesOf p) with
              | true =>
                rw [hlit] at hic
                replace hic := Aside0.mk hic
                have hgo2 : Aside0 (labelsGo acc (parts.drop (k + 1)) = r) := ⟨by have := hgo.out; rw [if_pos hlit] at this; exact this⟩
                replace hlit := Aside0.mk hlit
                go_wp2_with (first | (go_at_call 51; refine (hlc.out _).mono ?_; rintro e w3 ⟨rfl, ⟨nd, rfl⟩⟩) | (go_at_call 65; refine (hic.out _).mono ?_; rintro e w4 ⟨rfl, ⟨nd2, rfl⟩⟩))
                go_roundg (parts.length - (k + 1))
                case measure => have := hg.out; omega
                case rel => exact ⟨k + 1, acc, by omega, by go_num, ⟨rfl⟩, hgo2, ⟨by have := hal.out; omega⟩, ⟨Kd.R_drewN HA.out _⟩, ⟨Kd.R_drewN HP.out _⟩, HN, ⟨pw_below_drewN HB.out _⟩⟩
              | false =>
                rw [hlit] at hic
                replace hic := Aside0.mk hic
                have hrn : none = r := by have := hgo.out; rw [if_neg (by rw [hlit]; simp)] at this; exact this
                subst hrn
                replace hlit := Aside0.mk hlit
                go_wp2_with (first | (go_at_call 51; refine (hlc.out _).mono ?_; rintro e w3 ⟨rfl, ⟨nd, rfl⟩⟩) | (go_at_call 65; refine (hic.out _).mono ?_; rintro e w4 ⟨rfl, ⟨nd2, rfl⟩⟩))
                go_ret2
                exact labP_none (pw_below_drewN HB.out _) rfl
          · obtain rfl : k = parts.length := by omega
            have hrn : some acc = r := by have := hr.out; rw [List.drop_length] at this; exact this
            subst hrn
            go_wp2
            go_ret2
            exact labP_some HB.out HA.out rfl
    · rw [if_pos (.inr (.inl h47))]
      have hx1 : (bt path 0 != 47) = true := by simpa using h47
      clear h47
      go_enter Tryz.func41, Tryz.ntmps41
      go_wp2
      go_ret2
      exact labP_none (Below.refl _ _) rfl
end H
end Go.Proofs.YtclmjmfcggkpaaaGreatDoor
set_option linter.unusedVariables false
set_option linter.unusedSimpArgs false
namespace Go.Proofs.YtclmjmfcggkpaaaGreatDoor
open Go.RowKit Go.Proofs.YtclmjmfcggkpaaaGreatDoorW.PrintWords Go.Proofs.YtclmjmfcggkpaaaGreatDoorW.PrintLast Go.Proofs.YtclmjmfcggkpaaaGreatDoorW.PrintMore
namespace H
/-- 'append(xs, y)', the old value kept as well: strings. -/
theorem append_keepS {P : Program} {ops : Array Oper} {o : Oper} {rest : List Oper} {a : Act} {Q : Exit → Act → World → Prop} {W : World} (base : Nat) (hgd : o.guard = none) (s x : Operand) (t e : TypeId) (bytes : Nat)
    (ho : o.op = .call { callee := .builtin .append, args := #[s, x], argTypes := #[t, t] }) (ht : P.underlying t = some (.slice e))
    (hinfo : (P.info? e).map (fun i => (i.zero, i.size, i.bytes)) = some (some (.string ⟨#[]⟩), 1, bytes))
    (v : Value) (xs : List ByteArray) (y : ByteArray) (hs : a.eval s = v) (hx : a.eval x = .slice (some ⟨W.heap.size, 0, none⟩) 1 1)
    (HO : W.ownsRow base e 1 v xs.length (encs Value.string xs)) (hbase : base ≤ W.heap.size) (hm : xs.length + 1 ≤ 1000000) (hl : (xs.length + 1) * bytes ≤ 140737488355328)
    (h : ∀ v1 w1, w1.ownsRow base e 1 v1 (xs ++ [y]).length (encs Value.string (xs ++ [y])) → w1.ownsRow base e 1 v xs.length (encs Value.string xs) → W.grownBy w1 v.ownBlock → wpList P ops Q rest (a.put o.dst v1) w1) :
    wpList P ops Q (o :: rest) a (W.alloc (.cells #[.string y] e)) := by
  obtain ⟨i, hi, hz, hsz, hby⟩ := info_parts hinfo
  have hnew : ∀ j u, ([Value.string y] : List Value)[j]? = some u → (W.alloc (.cells #[.string y] e)).cell? ((⟨W.heap.size, 0, none⟩ : Addr).add j) = some u := by
    intro j u hj
    rw [plain_add, cell_at (heap_new W _), ← hj]
    simp
  have h1c : ∀ u ∈ ([Value.string y] : List Value), u.oneCell' = true := by
    intro u hu
    rw [List.mem_singleton.1 hu]
    rfl
  have hlen : (xs ++ [y]).length = xs.length + 1 := by simp
  have henc : encs Value.string (xs ++ [y]) = encs Value.string xs ++ [.string y] := by simp [encs]
  have hgr : ∀ {w1 : World} {row : Option Nat}, (W.alloc (.cells #[.string y] e)).grownBy w1 row → W.grownBy w1 row := fun {w1 row} hg =>
    ⟨hg.os, hg.tape, hg.output, Nat.le_trans (by show W.heap.size ≤ (W.heap.push _).size; simp) hg.size, fun k hk hn => (hg.block k (by show k < (W.heap.push _).size; simp; omega) hn).trans (Below.heap_alloc W _ k hk)⟩
  have hold := own_move (w1 := W.alloc (.cells #[.string y] e)) HO (fun k hk => Below.heap_alloc W _ k (own_lt HO k hk))
  rcases hold.2 with ⟨hv, h0⟩ | ⟨g, cap, cur, hv, hbg, hg, hnc, hcm, hcs, htk⟩
  · refine wpList_append_own _ hgd s x t ho base e i (.string ⟨#[]⟩) 1 bytes ht hi hz hsz hby rfl (by decide) v xs.length (encs Value.string xs) hs hold ⟨W.heap.size, 0, none⟩ 1 1 [.string y] hx rfl hnew h1c (by unfold maxLen; omega) hl (by show base ≤ (W.heap.push _).size; simp; omega) ?_
    intro v1 w1 ho1 hg1 _
    refine h v1 w1 (by rw [hlen, henc]; exact ho1) ?_ (hgr hg1)
    rw [hv, h0, List.eq_nil_of_length_eq_zero h0]
    exact own_nil _ _ _ _
  · subst hv
    have hcl : ∀ j u, (encs Value.string xs)[j]? = some u → (W.alloc (.cells #[.string y] e)).cell? ⟨g, 0 + j, none⟩ = some u := by
      intro j u hj
      rw [Nat.zero_add, cell_at hg]
      rw [← htk, List.getElem?_take] at hj
      split at hj
      · simpa using hj
      · cases hj
    have hsize : (W.alloc (.cells #[.string y] e)).heap.size = W.heap.size + 1 := by show (W.heap.push _).size = _; simp
    refine wpList_append_arg _ hgd s x t ho e i (.string ⟨#[]⟩) 1 bytes ht hi hz hsz hby rfl (by decide) g 0 xs.length cap (encs Value.string xs) hs (by simp [encs]) hcl ⟨W.heap.size, 0, none⟩ 1 1 [.string y] hx rfl hnew h1c
      (fun hr j hj => ?_) (by unfold maxLen; omega) hl (fun hr => ?_) (fun hf v1 w1 ho1 hg1 => ?_)
    · obtain rfl : j = 0 := by simpa using hj
      refine ⟨?_, free_of hg _⟩
      rw [cell_at hg]
      simp
      omega
    · have e1 : World.setCells (W.alloc (.cells #[.string y] e)) g (0 + xs.length * 1) [.string y] = (W.alloc (.cells #[.string y] e)).setCell ⟨g, xs.length, none⟩ (.string y) := by simp [World.setCells]
      rw [e1]
      have hg2 := heap_set hg xs.length (.string y)
      refine h _ _ ?_ ?_ (hgr ?_)
      · refine ⟨by simp [encs], .inr ⟨g, cap, _, by rw [hlen], hbg, hg2, by simp; omega, hcm, by simp; omega, ?_⟩⟩
        rw [hlen, henc]
        have : (cur.setIfInBounds xs.length (.string y)).toList = cur.toList.set xs.length (.string y) := by simp
        rw [this, Nat.mul_one, List.take_set, List.take_succ_eq_append_getElem (by simp; omega), List.set_append_right _ _ (by simp; omega)]
        rw [Nat.mul_one] at htk
        rw [htk]
        simp [encs]
      · refine ⟨by simp [encs], .inr ⟨g, cap, _, rfl, hbg, hg2, hnc, hcm, by simp; omega, ?_⟩⟩
        have : (cur.setIfInBounds xs.length (.string y)).toList = cur.toList.set xs.length (.string y) := by simp
        rw [this, Nat.mul_one, List.take_set_of_le (Nat.le_refl _)]
        rw [Nat.mul_one] at htk
        exact htk
      · exact ⟨rfl, rfl, rfl, by simp [World.setCell], fun k hk hn => Below.heap_setCell _ _ _ k (fun e => hn (by simp [Value.ownBlock, e]))⟩
    · refine h v1 w1 (by rw [hlen, henc]; exact own_low ho1 (by rw [hsize]; omega)) ?_ (hgr ⟨hg1.os, hg1.tape, hg1.output, hg1.size, fun k hk _ => hg1.block k hk (by simp)⟩)
      exact own_move hold (fun k hk => hg1.block k (own_lt hold k hk) (by simp))
end H
end Go.Proofs.YtclmjmfcggkpaaaGreatDoor
