/- What the program tells of a text, whether it can be published to, is what the reference tells: a subject without wildcards, at every text. No condition. -/
import Derived.Test.YtaobajfdnidkfaaPFnPublishx
import Derived.Test.YtaobajfdnidkfaaRoad
namespace Go.Proofs.Ytaobajfdnidkfaa.Pure
open Go.RowKit Go.Proofs.Ytaobajfdnidkfaa.PFnPublish Go.Proofs.YtaobajfdnidkfaaW.PrintWords Go.Proofs.YtaobajfdnidkfaaW.PrintLast Go.Proofs.Ytaobajfdnidkfaa.Road
set_option linter.unusedVariables false
set_option linter.unusedSimpArgs false

theorem Tokens_loop (s : ByteArray) (hs : s.size ≤ 2147483647) (d : Nat) : ∀ (i a : Nat) (out : List ByteArray), a ≤ i → i ≤ (bl s).length → (bl s).length - i = d → out.length + d < 8796093022208 →
    Ev (fun k => spec_Tokens.l0 k s out (a : Int) (i : Int)) (out ++ (toks (((bl s).take i).drop a) ((bl s).drop i)).map mkB) := by
  have hl := bl_len s
  induction d with
  | zero =>
    intro i a out h1 h2 h3 h4
    have hi : i = (bl s).length := by omega
    refine Ev.step (f := fun _ => some (out ++ [s.extract a s.size])) (fun k => ?_) ?_
    · simp only [spec_Tokens.l0]
      rw [if_neg (by omega), if_pos (by omega), if_pos (by omega), if_pos (by omega)]
      simp
    · rw [hi, List.drop_length, List.take_length, extract_mkB, ← hl, List.take_length]
      exact Ev.now _
  | succ d ih =>
    intro i a out h1 h2 h3 h4
    have hlt : i < (bl s).length := by omega
    have hb := bt_get s i hlt
    rw [drop_get _ _ hlt]
    by_cases hc : (bl s)[i] = 46
    · refine Ev.step (f := fun k => spec_Tokens.l0 k s (out ++ [s.extract a i]) ((i + 1 : Nat) : Int) ((i + 1 : Nat) : Int)) (fun k => ?_) ?_
      · simp only [spec_Tokens.l0]
        rw [if_pos (by omega), if_pos (by omega), if_pos (by rw [hb, hc]; rfl), if_pos (by omega), if_pos (by omega), if_pos (by omega), if_pos (by omega), wrap_nat i (by omega)]
        simp
      · have := ih (i + 1) (i + 1) (out ++ [s.extract a i]) (Nat.le_refl _) (by omega) (by omega) (by simp; omega)
        rw [toks, if_pos hc]
        simpa [extract_mkB] using this
    · refine Ev.step (f := fun k => spec_Tokens.l0 k s out (a : Int) ((i + 1 : Nat) : Int)) (fun k => ?_) ?_
      · simp only [spec_Tokens.l0]
        rw [if_pos (by omega), if_pos (by omega), if_neg (by rw [hb]; intro h; exact hc ((u8_eq _ 46 (by omega)).1 h)), wrap_nat i (by omega)]
      · have := ih (i + 1) a out (by omega) (by omega) (by omega) (by omega)
        rw [toks, if_neg hc, ← take_drop_snoc _ _ _ h1 hlt]
        exact this

theorem Tokens_ev (s : ByteArray) (hs : s.size ≤ 2147483647) : Ev (fun k => spec_Tokens.f k s) ((toks [] (bl s)).map mkB) := by
  have := Tokens_loop s hs (bl s).length 0 0 [] (by omega) (by omega) (by omega) (by have := bl_len s; simp; omega)
  simpa [spec_Tokens.f] using this

theorem tok_get (ts : List Bs) (i : Nat) (h : i < ts.length) : (rdOf ByteArray.empty (ts.map mkB) (i : Int)).toList = ts[i] := by
  rw [rdOf_nat _ _ _ (by simpa using h)]
  simp [toList_mkB]

theorem Formed_loop (ts : List Bs) (hs : ts.length ≤ 2147483648) (d : Nat) : ∀ i : Nat, i ≤ ts.length → ts.length - i = d → Ev (fun k => spec_Formed.l0 k (ts.map mkB) (i : Int)) (formedB (ts.drop i)) := by
  induction d with
  | zero =>
    intro i h1 h2
    refine Ev.step (f := fun _ => some true) (fun k => ?_) ?_
    · simp only [spec_Formed.l0]
      rw [if_neg (by simp; omega)]
    · rw [List.drop_of_length_le (by omega)]
      exact Ev.now _
  | succ d ih =>
    intro i h1 h2
    have hlt : i < ts.length := by omega
    have hg := tok_get ts i hlt
    have hi := ih (i + 1) (by omega) (by omega)
    rw [drop_get _ _ hlt]
    by_cases e1 : ts[i] = []
    · refine Ev.step (f := fun _ => some false) (fun k => ?_) ?_
      · simp only [spec_Formed.l0]
        rw [if_pos (by simp; omega), if_pos (by omega), if_pos (by rw [hg]; exact e1)]
      · simp only [formedB, if_pos e1]
        exact Ev.now _
    · by_cases e2 : ts[i] = [62]
      · by_cases e3 : ts.drop (i + 1) = []
        · refine Ev.step (f := fun k => spec_Formed.l0 k (ts.map mkB) ((i + 1 : Nat) : Int)) (fun k => ?_) ?_
          · simp only [spec_Formed.l0]
            rw [if_pos (by simp; omega), if_pos (by omega), if_neg (by rw [hg]; exact e1), if_pos (by rw [hg]; exact e2), wrap_nat i (by omega), if_neg (by simp at e3; simp; omega)]
          · simp only [formedB, if_neg e1, if_pos e2, if_pos e3]
            exact hi
        · refine Ev.step (f := fun _ => some false) (fun k => ?_) ?_
          · simp only [spec_Formed.l0]
            rw [if_pos (by simp; omega), if_pos (by omega), if_neg (by rw [hg]; exact e1), if_pos (by rw [hg]; exact e2), wrap_nat i (by omega), if_pos (by simp at e3; simp; omega)]
          · simp only [formedB, if_neg e1, if_pos e2, if_neg e3]
            exact Ev.now _
      · refine Ev.step (f := fun k => spec_Formed.l0 k (ts.map mkB) ((i + 1 : Nat) : Int)) (fun k => ?_) ?_
        · simp only [spec_Formed.l0]
          rw [if_pos (by simp; omega), if_pos (by omega), if_neg (by rw [hg]; exact e1), if_neg (by rw [hg]; exact e2), wrap_nat i (by omega)]
        · simp only [formedB, if_neg e1, if_neg e2]
          exact hi

theorem Formed_ev (ts : List Bs) (hs : ts.length ≤ 2147483648) : Ev (fun k => spec_Formed.f k (ts.map mkB)) (formedB ts) := by
  have := Formed_loop ts hs ts.length 0 (by omega) (by omega)
  simpa [spec_Formed.f] using this

theorem Blank_of (c : UInt8) : spec_Blank.f (c.toNat : Int) = some (blankB c) := by
  have e32 : (c.toNat : Int) = 32 ↔ c = 32 := u8_eq c 32 (by omega)
  have e9 : (c.toNat : Int) = 9 ↔ c = 9 := u8_eq c 9 (by omega)
  have e10 : (c.toNat : Int) = 10 ↔ c = 10 := u8_eq c 10 (by omega)
  have e13 : (c.toNat : Int) = 13 ↔ c = 13 := u8_eq c 13 (by omega)
  have e12 : (c.toNat : Int) = 12 ↔ c = 12 := u8_eq c 12 (by omega)
  unfold spec_Blank.f blankB
  by_cases h1 : c = 32
  · rw [if_pos (e32.2 h1)]; simp [h1]
  · rw [if_neg (fun h => h1 (e32.1 h))]
    by_cases h2 : c = 9
    · rw [if_pos (e9.2 h2)]; simp [h2]
    · rw [if_neg (fun h => h2 (e9.1 h))]
      by_cases h3 : c = 10
      · rw [if_pos (e10.2 h3)]; simp [h3]
      · rw [if_neg (fun h => h3 (e10.1 h))]
        by_cases h4 : c = 13
        · rw [if_pos (e13.2 h4)]; simp [h4]
        · rw [if_neg (fun h => h4 (e13.1 h))]
          by_cases h5 : c = 12
          · have : ((c.toNat : Int) == 12) = true := beq_iff_eq.2 (e12.2 h5)
            rw [this]; simp [h5]
          · have : ((c.toNat : Int) == 12) = false := beq_eq_false_iff_ne.2 (fun h => h5 (e12.1 h))
            rw [this]; simp [h1, h2, h3, h4, h5]

theorem Spaced_loop (s : ByteArray) (hs : s.size ≤ 2147483647) (d : Nat) : ∀ i : Nat, i ≤ (bl s).length → (bl s).length - i = d → Ev (fun k => spec_Spaced.l0 k s (i : Int)) (spacedB ((bl s).drop i)) := by
  have hl := bl_len s
  induction d with
  | zero =>
    intro i h1 h2
    refine Ev.step (f := fun _ => some false) (fun k => ?_) ?_
    · simp only [spec_Spaced.l0]
      rw [if_neg (by omega)]
    · rw [List.drop_of_length_le (by omega)]
      exact Ev.now _
  | succ d ih =>
    intro i h1 h2
    have hlt : i < (bl s).length := by omega
    have hb := bt_get s i hlt
    rw [drop_get _ _ hlt]
    by_cases hc : blankB (bl s)[i] = true
    · refine Ev.step (f := fun _ => some true) (fun k => ?_) ?_
      · simp only [spec_Spaced.l0]
        rw [if_pos (by omega), if_pos (by omega), hb, Blank_of, hc]
        simp
      · rw [spacedB_cons, hc, Bool.true_or]
        exact Ev.now _
    · have hc' : blankB (bl s)[i] = false := by simpa using hc
      refine Ev.step (f := fun k => spec_Spaced.l0 k s ((i + 1 : Nat) : Int)) (fun k => ?_) ?_
      · simp only [spec_Spaced.l0]
        rw [if_pos (by omega), if_pos (by omega), hb, Blank_of, hc', wrap_nat i (by omega)]
        simp
      · rw [spacedB_cons, hc', Bool.false_or]
        exact ih (i + 1) (by omega) (by omega)

theorem Spaced_ev (s : ByteArray) (hs : s.size ≤ 2147483647) : Ev (fun k => spec_Spaced.f k s) (spacedB (bl s)) := by
  have := Spaced_loop s hs (bl s).length 0 (by omega) (by omega)
  simpa [spec_Spaced.f] using this

theorem SValid_ev (s : ByteArray) (hs : s.size ≤ 2147483647) : Ev (fun k => spec_Valid.f k s) (sValidB (bl s)) := by
  have hl := bl_len s
  have hc := toks_length_le (bl s)
  unfold spec_Valid.f sValidB
  refine Ev.bind (Tokens_ev s hs) (Ev.bind (Formed_ev _ (by omega)) ?_)
  cases formedB (toks [] (bl s)) with
  | true =>
    simp only [if_true]
    refine Ev.bind (Spaced_ev s hs) ?_
    simp only [Bool.true_and]
    exact Ev.now _
  | false =>
    simp
    exact Ev.now _


theorem Literal_loop (ts : List Bs) (hs : ts.length ≤ 2147483648) (d : Nat) : ∀ i : Nat, i ≤ ts.length → ts.length - i = d → Ev (fun k => spec_Literal.l0 k (ts.map mkB) (i : Int)) ((ts.drop i).all notW) := by
  induction d with
  | zero =>
    intro i h1 h2
    refine Ev.step (f := fun _ => some true) (fun k => ?_) ?_
    · simp only [spec_Literal.l0]
      rw [if_neg (by simp; omega)]
    · rw [List.drop_of_length_le (by omega)]
      exact Ev.now _
  | succ d ih =>
    intro i h1 h2
    have hlt : i < ts.length := by omega
    have hg := tok_get ts i hlt
    have hi := ih (i + 1) (by omega) (by omega)
    rw [drop_get _ _ hlt, List.all_cons]
    by_cases e1 : ts[i] = [42]
    · refine Ev.step (f := fun _ => some false) (fun k => ?_) ?_
      · simp only [spec_Literal.l0]
        rw [if_pos (by simp; omega), if_pos (by omega), if_pos (by rw [hg]; exact e1)]
      · rw [e1]
        exact Ev.now _
    · by_cases e2 : ts[i] = [62]
      · refine Ev.step (f := fun _ => some false) (fun k => ?_) ?_
        · simp only [spec_Literal.l0]
          rw [if_pos (by simp; omega), if_pos (by omega), if_neg (by rw [hg]; exact e1), if_pos (by rw [hg]; exact e2)]
        · rw [e2]
          exact Ev.now _
      · refine Ev.step (f := fun k => spec_Literal.l0 k (ts.map mkB) ((i + 1 : Nat) : Int)) (fun k => ?_) ?_
        · simp only [spec_Literal.l0]
          rw [if_pos (by simp; omega), if_pos (by omega), if_neg (by rw [hg]; exact e1), if_neg (by rw [hg]; exact e2), wrap_nat i (by omega)]
        · have : notW ts[i] = true := by simp [notW, e1, e2]
          rw [this, Bool.true_and]
          exact hi

theorem Literal_ev (s : ByteArray) (hs : s.size ≤ 2147483647) : Ev (fun k => spec_Literal.f k s) ((toks [] (bl s)).all notW) := by
  have hl := bl_len s
  have hc := toks_length_le (bl s)
  unfold spec_Literal.f
  refine Ev.bind (Tokens_ev s hs) ?_
  have := Literal_loop (toks [] (bl s)) (by omega) (toks [] (bl s)).length 0 (by omega) (by omega)
  simpa using this

theorem Plain_ev (s : ByteArray) (hs : s.size ≤ 2147483647) : Ev (fun k => spec_Plain.f k s) (sValidB (bl s) && (toks [] (bl s)).all notW) := by
  unfold spec_Plain.f
  refine Ev.bind (SValid_ev s hs) ?_
  cases sValidB (bl s) with
  | true =>
    simp only [if_true]
    refine Ev.bind (Literal_ev s hs) ?_
    simp only [Bool.true_and]
    exact Ev.now _
  | false =>
    simp
    exact Ev.now _

-- SENT: What the program tells of a text, whether it can be published to, is what the reference tells: a subject without wildcards, at every text. No condition.
theorem FnPublish : laws_FnPublish.Pure := by
  intro s hsz
  apply Ev.rounds
  unfold laws_FnPublish.f
  by_cases h : (s.size : Int) > 2147483647
  · simp only [if_pos h]
    exact Ev.now _
  · simp only [if_neg h]
    by_cases h4 : (s.size : Int) > 400
    · simp only [if_pos h4]
      exact Ev.now _
    · simp only [if_neg h4]
      have e : impl_Publish.f s = some (sValidB (bl s) && (toks [] (bl s)).all notW) := by
        unfold impl_Publish.f server_IsValidPublishSubject.f server_IsValidSubject.f server_isValidSubject.f server_subjectIsLiteral.f
        rw [if_pos ⟨rfl, by omega⟩, if_pos (by omega), ← (litL_toks (bl s)).2]
        cases sValidB (bl s) <;> rfl
      rw [e]
      simp only [Option.bind_some]
      refine Ev.bind (Plain_ev s (by omega)) ?_
      simp
      exact Ev.now _

end Go.Proofs.Ytaobajfdnidkfaa.Pure
