-- Written by hprint.py (this session's program, over the kit's printing program, with this session's own contracts in it). Not trusted: Lean checks it.
import Derived.Test.YtaobajfdnidkfaaDoorPFnPubBackx0
import Derived.Test.YtaobajfdnidkfaaDoorPFnPubBackx1
import Derived.Test.YtaobajfdnidkfaaDoorPFnPubBackx2
import Derived.Test.YtaobajfdnidkfaaDoorPFnPubBackx3
import Derived.Test.YtaobajfdnidkfaaDoorPFnPubBackx4
namespace Go.Proofs.YtaobajfdnidkfaaDoor.PFnPubBack
open Go.RowKit Go.Proofs.YtaobajfdnidkfaaDoorW.PrintWords Go.Proofs.YtaobajfdnidkfaaDoorW.PrintLast Go.Proofs.YtaobajfdnidkfaaDoorW.PrintMore
attribute [local go_sem] max2_int min2_int max_two min_two max_three min_three max_four min_four   -- for this text's walks alone
set_option linter.unusedVariables false
set_option linter.unusedSimpArgs false

/-! ### laws_FnPubBack: function 4 -/
-- LAID YtaobajfdnidkfaaDoor.PFnPubBack.MaxOk | ⟨_, C0, D0⟩
section
open _root_.Go.Proofs.YtaobajfdnidkfaaDoor.Road
theorem Tokens_loop (s : ByteArray) (hs : s.size ≤ 2147483647) (d : Nat) : ∀ (i a : Nat) (out : List ByteArray), a ≤ i → i ≤ (bl s).length → (bl s).length - i = d → out.length + d < 8796093022208 →
    Ev (fun k => spec_Tokens.l0 k s out (a : Int) (i : Int)) (out ++ (toks (((bl s).take i).drop a) ((bl s).drop i)).map mkB) := by
  have hl := bl_len s
  induction d with
  | zero =>
    intro i a out h1 h2 h3 h4
    have hi : i = (bl s).length := by omega
    refine Ev.step (f := fun _ => some (out ++ [s.extract a s.size])) (fun k => ?_) ?_
    · simp only [spec_Tokens.l0]
      rw [if_neg (by omega), if_pos (by omega), if_pos (by omega), if_pos (by omega)]
      simp
    · rw [hi, List.drop_length, List.take_length, extract_mkB, ← hl, List.take_length]
      exact Ev.now _
  | succ d ih =>
    intro i a out h1 h2 h3 h4
    have hlt : i < (bl s).length := by omega
    have hb := bt_get s i hlt
    rw [drop_get _ _ hlt]
    by_cases hc : (bl s)[i] = 46
    · refine Ev.step (f := fun k => spec_Tokens.l0 k s (out ++ [s.extract a i]) ((i + 1 : Nat) : Int) ((i + 1 : Nat) : Int)) (fun k => ?_) ?_
      · simp only [spec_Tokens.l0]
        rw [if_pos (by omega), if_pos (by omega), if_pos (by rw [hb, hc]; rfl), if_pos (by omega), if_pos (by omega), if_pos (by omega), if_pos (by omega), wrap_nat i (by omega)]
        simp
      · have := ih (i + 1) (i + 1) (out ++ [s.extract a i]) (Nat.le_refl _) (by omega) (by omega) (by simp; omega)
        rw [toks, if_pos hc]
        simpa [extract_mkB] using this
    · refine Ev.step (f := fun k => spec_Tokens.l0 k s out (a : Int) ((i + 1 : Nat) : Int)) (fun k => ?_) ?_
      · simp only [spec_Tokens.l0]
        rw [if_pos (by omega), if_pos (by omega), if_neg (by rw [hb]; intro h; exact hc ((u8_eq _ 46 (by omega)).1 h)), wrap_nat i (by omega)]
      · have := ih (i + 1) a out (by omega) (by omega) (by omega) (by omega)
        rw [toks, if_neg hc, ← take_drop_snoc _ _ _ h1 hlt]
        exact this

theorem Tokens_ev (s : ByteArray) (hs : s.size ≤ 2147483647) : Ev (fun k => spec_Tokens.f k s) ((toks [] (bl s)).map mkB) := by
  have := Tokens_loop s hs (bl s).length 0 0 [] (by omega) (by omega) (by omega) (by have := bl_len s; simp; omega)
  simpa [spec_Tokens.f] using this

theorem tok_get (ts : List Bs) (i : Nat) (h : i < ts.length) : (rdOf ByteArray.empty (ts.map mkB) (i : Int)).toList = ts[i] := by
  rw [rdOf_nat _ _ _ (by simpa using h)]
  simp [toList_mkB]

theorem Formed_loop (ts : List Bs) (hs : ts.length ≤ 2147483648) (d : Nat) : ∀ i : Nat, i ≤ ts.length → ts.length - i = d → Ev (fun k => spec_Formed.l0 k (ts.map mkB) (i : Int)) (formedB (ts.drop i)) := by
  induction d with
  | zero =>
    intro i h1 h2
    refine Ev.step (f := fun _ => some true) (fun k => ?_) ?_
    · simp only [spec_Formed.l0]
      rw [if_neg (by simp; omega)]
    · rw [List.drop_of_length_le (by omega)]
      exact Ev.now _
  | succ d ih =>
    intro i h1 h2
    have hlt : i < ts.length := by omega
    have hg := tok_get ts i hlt
    have hi := ih (i + 1) (by omega) (by omega)
    rw [drop_get _ _ hlt]
    by_cases e1 : ts[i] = []
    · refine Ev.step (f := fun _ => some false) (fun k => ?_) ?_
      · simp only [spec_Formed.l0]
        rw [if_pos (by simp; omega), if_pos (by omega), if_pos (by rw [hg]; exact e1)]
      · simp only [formedB, if_pos e1]
        exact Ev.now _
    · by_cases e2 : ts[i] = [62]
      · by_cases e3 : ts.drop (i + 1) = []
        · refine Ev.step (f := fun k => spec_Formed.l0 k (ts.map mkB) ((i + 1 : Nat) : Int)) (fun k => ?_) ?_
          · simp only [spec_Formed.l0]
            rw [if_pos (by simp; omega), if_pos (by omega), if_neg (by rw [hg]; exact e1), if_pos (by rw [hg]; exact e2), wrap_nat i (by omega), if_neg (by simp at e3; simp; omega)]
          · simp only [formedB, if_neg e1, if_pos e2, if_pos e3]
            exact hi
        · refine Ev.step (f := fun _ => some false) (fun k => ?_) ?_
          · simp only [spec_Formed.l0]
            rw [if_pos (by simp; omega), if_pos (by omega), if_neg (by rw [hg]; exact e1), if_pos (by rw [hg]; exact e2), wrap_nat i (by omega), if_pos (by simp at e3; simp; omega)]
          · simp only [formedB, if_neg e1, if_pos e2, if_neg e3]
            exact Ev.now _
      · refine Ev.step (f := fun k => spec_Formed.l0 k (ts.map mkB) ((i + 1 : Nat) : Int)) (fun k => ?_) ?_
        · simp only [spec_Formed.l0]
          rw [if_pos (by simp; omega), if_pos (by omega), if_neg (by rw [hg]; exact e1), if_neg (by rw [hg]; exact e2), wrap_nat i (by omega)]
        · simp only [formedB, if_neg e1, if_neg e2]
          exact hi

theorem Formed_ev (ts : List Bs) (hs : ts.length ≤ 2147483648) : Ev (fun k => spec_Formed.f k (ts.map mkB)) (formedB ts) := by
  have := Formed_loop ts hs ts.length 0 (by omega) (by omega)
  simpa [spec_Formed.f] using this

theorem Blank_of (c : UInt8) : spec_Blank.f (c.toNat : Int) = some (blankB c) := by
  have e32 : (c.toNat : Int) = 32 ↔ c = 32 := u8_eq c 32 (by omega)
  have e9 : (c.toNat : Int) = 9 ↔ c = 9 := u8_eq c 9 (by omega)
  have e10 : (c.toNat : Int) = 10 ↔ c = 10 := u8_eq c 10 (by omega)
  have e13 : (c.toNat : Int) = 13 ↔ c = 13 := u8_eq c 13 (by omega)
  have e12 : (c.toNat : Int) = 12 ↔ c = 12 := u8_eq c 12 (by omega)
  unfold spec_Blank.f blankB
  by_cases h1 : c = 32
  · rw [if_pos (e32.2 h1)]; simp [h1]
  · rw [if_neg (fun h => h1 (e32.1 h))]
    by_cases h2 : c = 9
    · rw [if_pos (e9.2 h2)]; simp [h2]
    · rw [if_neg (fun h => h2 (e9.1 h))]
      by_cases h3 : c = 10
      · rw [if_pos (e10.2 h3)]; simp [h3]
      · rw [if_neg (fun h => h3 (e10.1 h))]
        by_cases h4 : c = 13
        · rw [if_pos (e13.2 h4)]; simp [h4]
        · rw [if_neg (fun h => h4 (e13.1 h))]
          by_cases h5 : c = 12
          · have : ((c.toNat : Int) == 12) = true := beq_iff_eq.2 (e12.2 h5)
            rw [this]; simp [h5]
          · have : ((c.toNat : Int) == 12) = false := beq_eq_false_iff_ne.2 (fun h => h5 (e12.1 h))
            rw [this]; simp [h1, h2, h3, h4, h5]

theorem Spaced_loop (s : ByteArray) (hs : s.size ≤ 2147483647) (d : Nat) : ∀ i : Nat, i ≤ (bl s).length → (bl s).length - i = d → Ev (fun k => spec_Spaced.l0 k s (i : Int)) (spacedB ((bl s).drop i)) := by
  have hl := bl_len s
  induction d with
  | zero =>
    intro i h1 h2
    refine Ev.step (f := fun _ => some false) (fun k => ?_) ?_
    · simp only [spec_Spaced.l0]
      rw [if_neg (by omega)]
    · rw [List.drop_of_length_le (by omega)]
      exact Ev.now _
  | succ d ih =>
    intro i h1 h2
    have hlt : i < (bl s).length := by omega
    have hb := bt_get s i hlt
    rw [drop_get _ _ hlt]
    by_cases hc : blankB (bl s)[i] = true
    · refine Ev.step (f := fun _ => some true) (fun k => ?_) ?_
      · simp only [spec_Spaced.l0]
        rw [if_pos (by omega), if_pos (by omega), hb, Blank_of, hc]
        simp
      · rw [spacedB_cons, hc, Bool.true_or]
        exact Ev.now _
    · have hc' : blankB (bl s)[i] = false := by simpa using hc
      refine Ev.step (f := fun k => spec_Spaced.l0 k s ((i + 1 : Nat) : Int)) (fun k => ?_) ?_
      · simp only [spec_Spaced.l0]
        rw [if_pos (by omega), if_pos (by omega), hb, Blank_of, hc', wrap_nat i (by omega)]
        simp
      · rw [spacedB_cons, hc', Bool.false_or]
        exact ih (i + 1) (by omega) (by omega)

theorem Spaced_ev (s : ByteArray) (hs : s.size ≤ 2147483647) : Ev (fun k => spec_Spaced.f k s) (spacedB (bl s)) := by
  have := Spaced_loop s hs (bl s).length 0 (by omega) (by omega)
  simpa [spec_Spaced.f] using this

theorem SValid_ev (s : ByteArray) (hs : s.size ≤ 2147483647) : Ev (fun k => spec_Valid.f k s) (sValidB (bl s)) := by
  have hl := bl_len s
  have hc := toks_length_le (bl s)
  unfold spec_Valid.f sValidB
  refine Ev.bind (Tokens_ev s hs) (Ev.bind (Formed_ev _ (by omega)) ?_)
  cases formedB (toks [] (bl s)) with
  | true =>
    simp only [if_true]
    refine Ev.bind (Spaced_ev s hs) ?_
    simp only [Bool.true_and]
    exact Ev.now _
  | false =>
    simp
    exact Ev.now _

theorem clean_loop (s : ByteArray) (hs : s.size ≤ 2147483647) (d : Nat) : ∀ i : Nat, i ≤ (bl s).length → (bl s).length - i = d → Ev (fun k => laws_clean.l0 k s (i : Int)) (decide ((bl s).length ≤ 400) && ((bl s).drop i).all cleanC) := by
  have hl := bl_len s
  induction d with
  | zero =>
    intro i h1 h2
    refine Ev.step (f := fun k => laws_clean.j1 k s (i : Int) false) (fun k => ?_) (Ev.step (f := fun _ => some (decide ((s.size : Int) ≤ 400))) (fun k => ?_) ?_)
    · simp only [laws_clean.l0]
      rw [if_neg (by omega)]
    · simp [laws_clean.j1]
    · rw [List.drop_of_length_le (by omega)]
      have : decide ((s.size : Int) ≤ 400) = (decide ((bl s).length ≤ 400) && List.all ([] : Bs) cleanC) := by
        simp only [List.all_nil, Bool.and_true]
        exact decide_eq_decide.2 (by omega)
      rw [this]
      exact Ev.now _
  | succ d ih =>
    intro i h1 h2
    have hlt : i < (bl s).length := by omega
    have hb := bt_get s i hlt
    rw [drop_get _ _ hlt]
    by_cases h4 : i ≤ 400
    · refine Ev.step (f := fun k => laws_clean.j1 k s (i : Int) true) (fun k => ?_) ?_
      · simp only [laws_clean.l0]
        rw [if_pos (by omega), decide_eq_true (by omega)]
      · by_cases e1 : ((bl s)[i].toNat : Int) ≤ 32
        · refine Ev.step (f := fun _ => some false) (fun k => ?_) ?_
          · simp only [laws_clean.j1]
            rw [if_pos trivial, if_pos (by omega), if_pos (by omega), if_pos (by rw [hb]; exact e1)]
          · have : cleanC (bl s)[i] = false := cleanC_lo e1
            simp only [List.all_cons, this, Bool.false_and, Bool.and_false]
            exact Ev.now _
        · by_cases e2 : (bl s)[i] = 127
          · refine Ev.step (f := fun _ => some false) (fun k => ?_) ?_
            · simp only [laws_clean.j1]
              rw [if_pos trivial, if_pos (by omega), if_pos (by omega), if_neg (by rw [hb]; exact e1), if_pos (by rw [hb, e2]; rfl)]
            · have : cleanC (bl s)[i] = false := cleanC_del e2
              simp only [List.all_cons, this, Bool.false_and, Bool.and_false]
              exact Ev.now _
          · refine Ev.step (f := fun k => laws_clean.l0 k s ((i + 1 : Nat) : Int)) (fun k => ?_) ?_
            · simp only [laws_clean.j1]
              rw [if_pos trivial, if_pos (by omega), if_pos (by omega), if_neg (by rw [hb]; exact e1), if_neg (by rw [hb]; intro h; exact e2 ((u8_eq _ 127 (by omega)).1 h)), wrap_nat i (by omega)]
            · have : cleanC (bl s)[i] = true := cleanC_ok e1 e2
              simp only [List.all_cons, this, Bool.true_and]
              exact ih (i + 1) (by omega) (by omega)
    · refine Ev.step (f := fun k => laws_clean.j1 k s (i : Int) false) (fun k => ?_) (Ev.step (f := fun _ => some (decide ((s.size : Int) ≤ 400))) (fun k => ?_) ?_)
      · simp only [laws_clean.l0]
        rw [if_pos (by omega), decide_eq_false (by omega)]
      · simp [laws_clean.j1]
      · rw [decide_eq_false (by omega), decide_eq_false (p := (bl s).length ≤ 400) (by omega)]
        exact Ev.now _

theorem clean_ev (s : ByteArray) (hs : s.size ≤ 2147483647) : Ev (fun k => laws_clean.f k s) (cleanB (bl s)) := by
  have := clean_loop s hs (bl s).length 0 (by omega) (by omega)
  simpa [laws_clean.f, cleanB] using this

theorem tame_inner (ts : List Bs) (i : Nat) (hlt : i < ts.length) (hsz : ts[i].length ≤ 2147483648) (d : Nat) : ∀ j : Nat, j ≤ ts[i].length → ts[i].length - j = d → ∀ r : Bool,
    Ev (fun k => laws_tame.l0 k (ts.map mkB) ((i + 1 : Nat) : Int)) r →
    i < 2147483649 →
    Ev (fun k => laws_tame.l1 k (ts.map mkB) (i : Int) (j : Int)) ((decide (ts[i].length ≤ 1) || (ts[i].drop j).all fun c => c != 42 && c != 62) && r) := by
  have hrd : rdOf ByteArray.empty (ts.map mkB) (i : Int) = mkB ts[i] := by rw [rdOf_nat _ _ _ (by simpa using hlt)]; simp
  have hsize : (rdOf ByteArray.empty (ts.map mkB) (i : Int)).size = ts[i].length := by rw [hrd, size_mkB]
  induction d with
  | zero =>
    intro j h1 h2 r hr hi
    refine Ev.step (f := fun k => laws_tame.j2 k (ts.map mkB) (i : Int) (j : Int) false) (fun k => ?_) (Ev.step (f := fun k => laws_tame.l0 k (ts.map mkB) ((i + 1 : Nat) : Int)) (fun k => ?_) ?_)
    · simp only [laws_tame.l1]
      rw [if_pos (by omega), if_pos (by simp; omega), if_neg (by rw [hsize]; omega)]
    · simp only [laws_tame.j2]
      rw [if_neg (by simp), wrap_nat i (by omega)]
    · rw [List.drop_of_length_le (by omega)]
      simpa using hr
  | succ d ih =>
    intro j h1 h2 r hr hi
    have hj : j < ts[i].length := by omega
    by_cases h3 : ts[i].length ≤ 1
    · refine Ev.step (f := fun k => laws_tame.j2 k (ts.map mkB) (i : Int) (j : Int) false) (fun k => ?_) (Ev.step (f := fun k => laws_tame.l0 k (ts.map mkB) ((i + 1 : Nat) : Int)) (fun k => ?_) ?_)
      · simp only [laws_tame.l1]
        rw [if_pos (by omega), if_pos (by simp; omega), if_pos (by rw [hsize]; omega), decide_eq_false (by rw [hsize]; omega)]
      · simp only [laws_tame.j2]
        rw [if_neg (by simp), wrap_nat i (by omega)]
      · rw [decide_eq_true h3]
        simpa using hr
    · have hb : bt (rdOf ByteArray.empty (ts.map mkB) (i : Int)) (j : Int) = ((ts[i][j]).toNat : Int) := by
        rw [hrd, bt_get _ _ (by rw [bl_mkB]; exact hj)]
        simp only [bl_mkB]
      rw [drop_get _ _ hj]
      refine Ev.step (f := fun k => laws_tame.j2 k (ts.map mkB) (i : Int) (j : Int) true) (fun k => ?_) ?_
      · simp only [laws_tame.l1]
        rw [if_pos (by omega), if_pos (by simp; omega), if_pos (by rw [hsize]; omega), decide_eq_true (by rw [hsize]; omega)]
      · by_cases e1 : ts[i][j] = 42
        · refine Ev.step (f := fun _ => some false) (fun k => ?_) ?_
          · simp only [laws_tame.j2]
            rw [if_pos trivial, if_pos (by omega), if_pos (by simp; omega), if_pos (by omega), if_pos (by rw [hsize]; omega), if_pos (by rw [hb, e1]; rfl)]
          · rw [decide_eq_false h3]
            simp only [List.all_cons, e1]
            exact Ev.now _
        · by_cases e2 : ts[i][j] = 62
          · refine Ev.step (f := fun _ => some false) (fun k => ?_) ?_
            · simp only [laws_tame.j2]
              rw [if_pos trivial, if_pos (by omega), if_pos (by simp; omega), if_pos (by omega), if_pos (by rw [hsize]; omega), if_neg (by rw [hb]; intro h; exact e1 ((u8_eq _ 42 (by omega)).1 h)), if_pos (by rw [hb, e2]; rfl)]
            · rw [decide_eq_false h3]
              simp only [List.all_cons, e2]
              exact Ev.now _
          · refine Ev.step (f := fun k => laws_tame.l1 k (ts.map mkB) (i : Int) ((j + 1 : Nat) : Int)) (fun k => ?_) ?_
            · simp only [laws_tame.j2]
              rw [if_pos trivial, if_pos (by omega), if_pos (by simp; omega), if_pos (by omega), if_pos (by rw [hsize]; omega), if_neg (by rw [hb]; intro h; exact e1 ((u8_eq _ 42 (by omega)).1 h)), if_neg (by rw [hb]; intro h; exact e2 ((u8_eq _ 62 (by omega)).1 h)), wrap_nat j (by omega)]
            · have : ((ts[i][j] != 42) && (ts[i][j] != 62)) = true := by simp [e1, e2]
              simp only [List.all_cons, this, Bool.true_and]
              exact ih (j + 1) (by omega) (by omega) r hr hi

theorem tame_loop (ts : List Bs) (hs : ts.length ≤ 2147483648) (hsz : ∀ t ∈ ts, t.length ≤ 2147483648) (d : Nat) : ∀ i : Nat, i ≤ ts.length → ts.length - i = d → Ev (fun k => laws_tame.l0 k (ts.map mkB) (i : Int)) (tameB (ts.drop i)) := by
  induction d with
  | zero =>
    intro i h1 h2
    refine Ev.step (f := fun _ => some true) (fun k => ?_) ?_
    · simp only [laws_tame.l0]
      rw [if_neg (by simp; omega)]
    · rw [List.drop_of_length_le (by omega)]
      exact Ev.now _
  | succ d ih =>
    intro i h1 h2
    have hlt : i < ts.length := by omega
    refine Ev.step (f := fun k => laws_tame.l1 k (ts.map mkB) (i : Int) ((0 : Nat) : Int)) (fun k => ?_) ?_
    · simp only [laws_tame.l0]
      rw [if_pos (by simp; omega)]
      rfl
    · rw [drop_get _ _ hlt]
      have := tame_inner ts i hlt (hsz _ (List.getElem_mem hlt)) ts[i].length 0 (by omega) (by omega) _ (ih (i + 1) (by omega) (by omega)) (by omega)
      rw [tameB_cons]
      exact this

theorem toks_each (p l : Bs) (n : Nat) (h : p.length + l.length ≤ n) : ∀ t ∈ toks p l, t.length ≤ n := by
  induction l generalizing p with
  | nil => intro t ht; simp [toks] at ht; rw [ht]; simpa using h
  | cons c l ih =>
    unfold toks
    simp at h
    split
    · intro t ht
      rcases List.mem_cons.1 ht with ht | ht
      · rw [ht]; omega
      · exact ih [] (by simp; omega) t ht
    · exact ih _ (by simp; omega)

theorem tame_ev (s : ByteArray) (hs : s.size ≤ 2147483647) : Ev (fun k => laws_tame.f k s) (tameB (toks [] (bl s))) := by
  have hl := bl_len s
  have hc := toks_length_le (bl s)
  unfold laws_tame.f
  refine Ev.bind (Tokens_ev s hs) ?_
  have := tame_loop (toks [] (bl s)) (by omega) (toks_each _ _ _ (by simp; omega)) (toks [] (bl s)).length 0 (by omega) (by omega)
  simpa using this

theorem valid_ev (s : ByteArray) (hs : s.size ≤ 2147483647) : Ev (fun k => laws_valid.f k s) (validB (bl s)) := by
  unfold laws_valid.f validB
  refine Ev.bind (clean_ev s hs) ?_
  cases cleanB (bl s) with
  | false => simp; exact Ev.now _
  | true =>
    simp only [if_true, Bool.true_and]
    refine Ev.bind (SValid_ev s hs) ?_
    cases sValidB (bl s) with
    | false => simp; exact Ev.now _
    | true =>
      simp only [if_true, Bool.true_and]
      refine Ev.bind (tame_ev s hs) ?_
      exact Ev.now _
theorem Literal_loop (ts : List Bs) (hs : ts.length ≤ 2147483648) (d : Nat) : ∀ i : Nat, i ≤ ts.length → ts.length - i = d → Ev (fun k => spec_Literal.l0 k (ts.map mkB) (i : Int)) ((ts.drop i).all notW) := by
  induction d with
  | zero =>
    intro i h1 h2
    refine Ev.step (f := fun _ => some true) (fun k => ?_) ?_
    · simp only [spec_Literal.l0]
      rw [if_neg (by simp; omega)]
    · rw [List.drop_of_length_le (by omega)]
      exact Ev.now _
  | succ d ih =>
    intro i h1 h2
    have hlt : i < ts.length := by omega
    have hg := tok_get ts i hlt
    have hi := ih (i + 1) (by omega) (by omega)
    rw [drop_get _ _ hlt, List.all_cons]
    by_cases e1 : ts[i] = [42]
    · refine Ev.step (f := fun _ => some false) (fun k => ?_) ?_
      · simp only [spec_Literal.l0]
        rw [if_pos (by simp; omega), if_pos (by omega), if_pos (by rw [hg]; exact e1)]
      · rw [e1]
        exact Ev.now _
    · by_cases e2 : ts[i] = [62]
      · refine Ev.step (f := fun _ => some false) (fun k => ?_) ?_
        · simp only [spec_Literal.l0]
          rw [if_pos (by simp; omega), if_pos (by omega), if_neg (by rw [hg]; exact e1), if_pos (by rw [hg]; exact e2)]
        · rw [e2]
          exact Ev.now _
      · refine Ev.step (f := fun k => spec_Literal.l0 k (ts.map mkB) ((i + 1 : Nat) : Int)) (fun k => ?_) ?_
        · simp only [spec_Literal.l0]
          rw [if_pos (by simp; omega), if_pos (by omega), if_neg (by rw [hg]; exact e1), if_neg (by rw [hg]; exact e2), wrap_nat i (by omega)]
        · have : notW ts[i] = true := by simp [notW, e1, e2]
          rw [this, Bool.true_and]
          exact hi

theorem Literal_ev (s : ByteArray) (hs : s.size ≤ 2147483647) : Ev (fun k => spec_Literal.f k s) ((toks [] (bl s)).all notW) := by
  have hl := bl_len s
  have hc := toks_length_le (bl s)
  unfold spec_Literal.f
  refine Ev.bind (Tokens_ev s hs) ?_
  have := Literal_loop (toks [] (bl s)) (by omega) (toks [] (bl s)).length 0 (by omega) (by omega)
  simpa using this

/-! plain: words with blanks between -/
def nbl (l : List Int) : Prop := ∀ x ∈ l, blk x = false
def bbl (l : List Int) : Prop := ∀ x ∈ l, blk x = true
theorem spans_on (l : List Int) : ∀ (a : List Int), nbl a → ∀ (i : Nat) (st : Int), 0 ≤ st → spans (a ++ l) i st = spans l (i + a.length) st := by
  intro a
  induction a with
  | nil => intro _ i st _; rfl
  | cons x a ih =>
    intro h i st hs
    have hx := h x (by simp)
    rw [List.cons_append, spans, hx, if_neg (by simp), if_pos hs, ih (fun y hy => h y (by simp [hy])) (i + 1) st hs, List.length_cons]
    congr 1
    omega
theorem spans_gap (l : List Int) : ∀ (g : List Int), bbl g → ∀ (i : Nat), spans (g ++ l) i (-1) = spans l (i + g.length) (-1) := by
  intro g
  induction g with
  | nil => intro _ i; rfl
  | cons x g ih =>
    intro h i
    have hx := h x (by simp)
    rw [List.cons_append, spans, if_pos hx, if_neg (by omega), ih (fun y hy => h y (by simp [hy])) (i + 1), List.length_cons]
    congr 1
    omega
theorem spans_word (a l : List Int) (ha : nbl a) (hne : a ≠ []) (i : Nat) : spans (a ++ l) i (-1) = spans l (i + a.length) (i : Int) := by
  cases a with
  | nil => exact absurd rfl hne
  | cons x a =>
    have hx := ha x (by simp)
    rw [List.cons_append, spans, hx, if_neg (by simp), if_neg (by omega), spans_on l a (fun y hy => ha y (by simp [hy])) (i + 1) (i : Int) (by omega), List.length_cons]
    congr 1
    omega
theorem spans_cut (g l : List Int) (hg : bbl g) (hne : g ≠ []) (i st : Nat) : spans (g ++ l) i (st : Int) = (st, i) :: spans l (i + g.length) (-1) := by
  cases g with
  | nil => exact absurd rfl hne
  | cons x g =>
    have hx := hg x (by simp)
    rw [List.cons_append, spans, if_pos hx, if_pos (by omega), spans_gap l g (fun y hy => hg y (by simp [hy])) (i + 1), List.length_cons, Int.toNat_natCast]
    congr 2
    omega
theorem spans_end (i st : Nat) : spans [] i (st : Int) = [(st, i)] := by rw [spans, if_pos (by omega), Int.toNat_natCast]
theorem spans2 (a g z : List Int) (ha : nbl a) (ha0 : a ≠ []) (hg : bbl g) (hg0 : g ≠ []) (hz : nbl z) (hz0 : z ≠ []) : spans (a ++ (g ++ z)) 0 (-1) = [(0, a.length), (a.length + g.length, a.length + g.length + z.length)] := by
  have e := spans_word z [] hz hz0 (0 + a.length + g.length)
  rw [List.append_nil] at e
  rw [spans_word a _ ha ha0, spans_cut g _ hg hg0, e, spans_end]
  simp
theorem spans3 (a g b z : List Int) (ha : nbl a) (ha0 : a ≠ []) (hg : bbl g) (hg0 : g ≠ []) (hb : nbl b) (hb0 : b ≠ []) (hz : nbl z) (hz0 : z ≠ []) : spans (a ++ (g ++ (b ++ (g ++ z)))) 0 (-1) = [(0, a.length), (a.length + g.length, a.length + g.length + b.length), (a.length + g.length + b.length + g.length, a.length + g.length + b.length + g.length + z.length)] := by
  have e := spans_word z [] hz hz0 (0 + a.length + g.length + b.length + g.length)
  rw [List.append_nil] at e
  rw [spans_word a _ ha ha0, spans_cut g _ hg hg0, spans_word b _ hb hb0, spans_cut g _ hg hg0, e, spans_end]
  simp
theorem seg_mid (a b c : List Int) (n m : Nat) (hn : n = a.length) (hm : m = n + b.length) : seg (a ++ (b ++ c)) (n, m) = b := by
  subst hn hm
  unfold seg
  simp
/-! digits -/
def dig (l : List Int) : Prop := ∀ x ∈ l, 48 ≤ x ∧ x ≤ 57
theorem sizeGo_dig : ∀ (d : List Int) (n : Int), dig d → sizeGo n d = d.foldl (fun n x => n * 10 + (x - 48)) n := by
  intro d
  induction d with
  | nil => intro n _; rfl
  | cons x d ih =>
    intro n h
    have hx := h x (by simp)
    rw [sizeGo, if_neg (by omega), ih _ (fun y hy => h y (by simp [hy]))]
    rfl
theorem son_append (a b : List Int) : strOfNums (a ++ b) = strOfNums a ++ strOfNums b := by
  apply bl_inj
  simp [strOfNums, bl]
theorem son_size (a : List Int) : (strOfNums a).size = a.length := by
  rw [← bl_len]
  simp [strOfNums, bl]
theorem dg_eq (x : Nat) (hx : x < 1000000000) : wrap64 (Int.tdiv (x : Int) 10) = ((x / 10 : Nat) : Int) ∧ (wrap64 (48 + Int.tmod ((x / 10 : Nat) : Int) 10)) % 256 = ((48 + x / 10 % 10 : Nat) : Int) := by
  refine ⟨w64 _ _ (by rw [Int.tdiv_eq_ediv_of_nonneg (by omega)]; omega) (by omega) (by omega), ?_⟩
  rw [w64 (48 + Int.tmod ((x / 10 : Nat) : Int) 10) ((48 + x / 10 % 10 : Nat) : Int) (by rw [Int.tmod_eq_emod_of_nonneg (by omega)]; omega) (by omega) (by omega)]
  omega
theorem Digits_loop (k : Nat) : ∀ (x : Nat) (t : List Int), x < 10 ^ k → x < 1000000000 → t.length + k ≤ 100 →
    ∃ pre, Ev (fun f => spec_Digits.l0 f (x : Int) (strOfNums t)) (strOfNums (pre ++ t)) ∧ dig pre ∧ pre.length ≤ k - 1 ∧ pre.foldl (fun n x => n * 10 + (x - 48)) (0 : Int) = ((x / 10 : Nat) : Int) := by
  have base : ∀ (x : Nat) (t : List Int), x < 10 → ∃ pre, Ev (fun f => spec_Digits.l0 f (x : Int) (strOfNums t)) (strOfNums (pre ++ t)) ∧ dig pre ∧ pre.length ≤ k - 1 ∧ pre.foldl (fun n x => n * 10 + (x - 48)) (0 : Int) = ((x / 10 : Nat) : Int) := by
    intro x t h
    refine ⟨[], Ev.step (f := fun _ => some (strOfNums t)) (fun f => ?_) (Ev.now _), fun y hy => by simp at hy, by simp, by simp; omega⟩
    simp only [spec_Digits.l0]
    rw [if_neg (by omega)]
  induction k with
  | zero => intro x t h _ _; exact base x t (by simp at h; omega)
  | succ k ih =>
    intro x t h hx ht
    by_cases h10 : x < 10
    · exact base x t h10
    · have hd : x / 10 < 10 ^ k := Nat.div_lt_of_lt_mul (by rw [Nat.pow_succ, Nat.mul_comm] at h; exact h)
      have hk : 0 < k := by
        rcases Nat.eq_zero_or_pos k with h0 | h0
        · subst h0; simp at hd; omega
        · exact h0
      obtain ⟨pre, he, hg, hl, hv⟩ := ih (fun y u hy => by
        refine ⟨[], Ev.step (f := fun _ => some (strOfNums u)) (fun f => ?_) (Ev.now _), fun z hz => by simp at hz, by simp, by simp; omega⟩
        simp only [spec_Digits.l0]
        rw [if_neg (by omega)]) (x / 10) (((48 + x / 10 % 10 : Nat) : Int) :: t) hd (by omega) (by simp; omega)
      refine ⟨pre ++ [((48 + x / 10 % 10 : Nat) : Int)], Ev.step (f := fun f => spec_Digits.l0 f ((x / 10 : Nat) : Int) (strOfNums (((48 + x / 10 % 10 : Nat) : Int) :: t))) (fun f => ?_) (by rw [List.append_assoc]; exact he), ?_, by simp; omega, ?_⟩
      · obtain ⟨e1, e2⟩ := dg_eq x hx
        simp only [spec_Digits.l0, Option.bind_some]
        rw [if_pos (by clear e1 e2; omega), e1, e2, if_pos (by clear e1 e2; rw [son_size, son_size]; simp only [List.length_cons, List.length_nil]; omega), ← son_append]
        rfl
      · intro y hy
        rcases List.mem_append.1 hy with hy | hy
        · exact hg y hy
        · rw [List.mem_singleton.1 hy]; omega
      · rw [List.foldl_append, hv]
        simp only [List.foldl_cons, List.foldl_nil]
        omega
theorem Digits_ev (n : Nat) (hn : n < 1000000000) : ∃ d : List Int, Ev (fun f => spec_Digits.f f (n : Int)) (strOfNums d) ∧ dig d ∧ 0 < d.length ∧ d.length ≤ 9 ∧ psz d = (n : Int) := by
  obtain ⟨pre, he, hg, hl, hv⟩ := Digits_loop 9 n [((48 + n % 10 : Nat) : Int)] (by simpa using hn) hn (by simp)
  have e : (wrap64 (48 + Int.tmod (n : Int) 10)) % 256 = ((48 + n % 10 : Nat) : Int) := by
    rw [w64 (48 + Int.tmod (n : Int) 10) ((48 + n % 10 : Nat) : Int) (by rw [Int.tmod_eq_emod_of_nonneg (by omega)]; omega) (by omega) (by omega)]
    omega
  have hd : dig (pre ++ [((48 + n % 10 : Nat) : Int)]) := by
    intro y hy
    rcases List.mem_append.1 hy with hy | hy
    · exact hg y hy
    · rw [List.mem_singleton.1 hy]; omega
  refine ⟨pre ++ [((48 + n % 10 : Nat) : Int)], ?_, hd, by simp, by simp; omega, ?_⟩
  · unfold spec_Digits.f
    rw [e]
    exact he
  · unfold psz
    rw [if_neg (by simp; omega), sizeGo_dig _ _ hd, List.foldl_append, hv]
    simp only [List.foldl_cons, List.foldl_nil]
    omega
theorem dig_nbl {d : List Int} (h : dig d) : nbl d := fun x hx => by have := h x hx; simp [blk]; omega
/-! plain subjects -/
def plainV (s : ByteArray) : Bool := validB (bl s) && (toks [] (bl s)).all notW
theorem plain_ev (s : ByteArray) (hs : s.size ≤ 2147483647) : Ev (fun k => laws_plain.f k s) (plainV s) := by
  unfold laws_plain.f plainV
  refine Ev.bind (valid_ev s hs) ?_
  by_cases h : validB (bl s) = true
  · rw [h]
    simp only [if_true, Bool.true_and]
    exact Ev.bind (Literal_ev s hs) (Ev.now _)
  · rw [Bool.eq_false_iff.2 h]
    simp only [Bool.false_eq_true, if_false, Bool.false_and]
    exact Ev.now _
theorem plain_nbl {s : ByteArray} (h : plainV s = true) : nbl (bytesOf s) ∧ bytesOf s ≠ [] := by
  unfold plainV at h
  have hv := (Bool.and_eq_true_iff.1 h).1
  obtain ⟨_, hc, hf, _, _⟩ := validB_parts hv
  refine ⟨fun x hx => ?_, fun e => ?_⟩
  · unfold bytesOf at hx
    obtain ⟨c, hcm, rfl⟩ := List.mem_map.1 hx
    have h1 := hc c hcm
    have : ¬ (c.toNat : Int) ≤ 32 := fun h32 => by rw [cleanC_lo h32] at h1; simp at h1
    simp [blk]
    omega
  · have : bl s = [] := by
      unfold bytesOf at e
      exact List.map_eq_nil_iff.1 e
    rw [this] at hf
    simp [toks, formedB] at hf
def MaxOk (w : World) : Prop := ∃ ea, MaxLaid w ea
set_option maxHeartbeats 8000000 in
set_option maxRecDepth 100000 in
theorem PB_big (a0 a1 : ByteArray) (n b : Int) (w : World) (h : 2147483647 < a0.size ∨ 2147483647 < a1.size) :
    Calls Tryd.prog 4 #[.string a0, .string a1, .int .i64 n, .int .u8 b] w fun e w' => e = .returned (.bool true) ∧ Below w.heap.size w w' := by
  have hc : (decide (2147483647 < (a0.size : Int)) = true ∧ decide (2147483647 < a0.size) = true ∧ True ∧ True) ∨ (decide (2147483647 < (a0.size : Int)) = false ∧ decide (2147483647 < a0.size) = false ∧ decide (2147483647 < (a1.size : Int)) = true ∧ decide (2147483647 < a1.size) = true) := by
    by_cases h0 : 2147483647 < a0.size
    · exact .inl ⟨decide_eq_true (by omega), decide_eq_true h0, trivial, trivial⟩
    · exact .inr ⟨decide_eq_false (by omega), decide_eq_false h0, decide_eq_true (by omega), decide_eq_true (by omega)⟩
  clear h
  rcases hc with ⟨d1, d2, d3, d4⟩ | ⟨d1, d2, d3, d4⟩
  all_goals
    go_enter Tryd.func4, Tryd.ntmps4
    go_wp2
    go_ret
    exact ⟨rfl, Below.refl _ _⟩
theorem empty_of {s : ByteArray} (h : s.toList = []) : s = ⟨#[]⟩ := by
  apply bl_inj
  rw [← toList_bl, h]
  rfl
set_option maxHeartbeats 8000000 in
set_option maxRecDepth 100000 in
theorem PB_out (a0 a1 : ByteArray) (n b : Int) (w : World) (h0 : a0.size ≤ 2147483647) (h1 : a1.size ≤ 2147483647) (k0 k1 : Nat) (p0 p1 : Bool) (hk0 : laws_plain.f k0 a0 = some p0) (hk1 : laws_plain.f k1 a1 = some p1)
    (h : p0 = false ∨ (a1.toList ≠ [] ∧ p1 = false) ∨ 150 < a0.size + a1.size ∨ n < 0 ∨ 999999999 < n) :
    Calls Tryd.prog 4 #[.string a0, .string a1, .int .i64 n, .int .u8 b] w fun e w' => e = .returned (.bool true) ∧ Below w.heap.size w w' := by
  have HB := Aside0.mk (Below.refl w.heap.size w)
  have d1 : decide (2147483647 < (a0.size : Int)) = false := decide_eq_false (by omega)
  have d2 : decide (2147483647 < a0.size) = false := decide_eq_false (by omega)
  have d3 : decide (2147483647 < (a1.size : Int)) = false := decide_eq_false (by omega)
  have d4 : decide (2147483647 < a1.size) = false := decide_eq_false (by omega)
  obtain ⟨S, hS⟩ : ∃ S, S = a0.size + a1.size := ⟨_, rfl⟩
  have HS := Aside0.mk (show wrap64 ((a0.size : Int) + (a1.size : Int)) = (S : Int) from w64 _ _ (by omega) (by omega) (by omega))
  have rest : ∀ T : Nat, (150 < T ∨ n < 0 ∨ 999999999 < n) → (decide (150 < (T : Int)) = true ∧ True ∧ True) ∨ (decide (150 < (T : Int)) = false ∧ decide (n < 0) = true ∧ True) ∨ (decide (150 < (T : Int)) = false ∧ decide (n < 0) = false ∧ decide (999999999 < n) = true) := by
    intro T hT
    by_cases c1 : 150 < T
    · exact .inl ⟨decide_eq_true (by omega), trivial, trivial⟩
    · by_cases c2 : n < 0
      · exact .inr (.inl ⟨decide_eq_false (by omega), decide_eq_true c2, trivial⟩)
      · exact .inr (.inr ⟨decide_eq_false (by omega), decide_eq_false c2, decide_eq_true (by omega)⟩)
  have HK0 := Aside0.mk hk0
  have HK1 := Aside0.mk hk1
  cases p0 with
  | false =>
    clear h0 h1 hk0 hk1 h hS rest
    go_enter Tryd.func4, Tryd.ntmps4
    go_wp2_with (((with_reducible refine gate_callee (f := 8) rfl ?_); refine goesL_ (some 24) rfl rfl Tryd.func8 (by kernel_rfl) rfl #[.string a0] rfl (by (try simp only [List.map_toArray, List.map_cons, List.map_nil]); first | done | rfl | (simp only [List.length_drop, List.length_take]; rfl)) ?_; (with_reducible refine (laws_plain.calls k0 a0 _ _ HK0.out).mono ?_); rintro e w1 ⟨rfl, hb⟩; refine ⟨_, rfl, ?_⟩; have n0_ := Aside0.mk (below_step (by repeat (first | (with_reducible first | exact HB.out | apply below_alloc | apply pw_below_drewN | apply below_drew1) | exact HB.out)) hb); clear HB; have HB := n0_; clear n0_ hb))
    go_ret
    exact ⟨rfl, by repeat (first | (with_reducible first | exact HB.out | apply below_alloc | apply pw_below_drewN | apply below_drew1) | exact HB.out)⟩
  | true =>
    by_cases he : a1.toList = []
    · obtain rfl := empty_of he
      have hT : 150 < a0.size ∨ n < 0 ∨ 999999999 < n := by
        rcases h with h | h | h | h
        · simp at h
        · exact absurd he h.1
        · exact .inl h
        · exact .inr h
      have hr := rest a0.size hT
      have e0 := w64 (a0.size : Int) (a0.size : Int) rfl (by omega) (by omega)
      clear h0 h1 hk0 hk1 h hS rest hT he HS
      rcases hr with ⟨t1, t2, t3⟩ | ⟨t1, t2, t3⟩ | ⟨t1, t2, t3⟩
      all_goals
        go_enter Tryd.func4, Tryd.ntmps4
        go_wp2_with (((with_reducible refine gate_callee (f := 8) rfl ?_); refine goesL_ (some 24) rfl rfl Tryd.func8 (by kernel_rfl) rfl #[.string a0] rfl (by (try simp only [List.map_toArray, List.map_cons, List.map_nil]); first | done | rfl | (simp only [List.length_drop, List.length_take]; rfl)) ?_; (with_reducible refine (laws_plain.calls k0 a0 _ _ HK0.out).mono ?_); rintro e w1 ⟨rfl, hb⟩; refine ⟨_, rfl, ?_⟩; have n0_ := Aside0.mk (below_step (by repeat (first | (with_reducible first | exact HB.out | apply below_alloc | apply pw_below_drewN | apply below_drew1) | exact HB.out)) hb); clear HB; have HB := n0_; clear n0_ hb))
        go_ret
        exact ⟨rfl, by repeat (first | (with_reducible first | exact HB.out | apply below_alloc | apply pw_below_drewN | apply below_drew1) | exact HB.out)⟩
    · have i1 : a1.toList.isEmpty = false := by cases hl : a1.toList with | nil => exact absurd hl he | cons x y => rfl
      have hr : (p1 = false ∧ True ∧ True ∧ True) ∨ (p1 = true ∧ ((decide (150 < (S : Int)) = true ∧ True ∧ True) ∨ (decide (150 < (S : Int)) = false ∧ decide (n < 0) = true ∧ True) ∨ (decide (150 < (S : Int)) = false ∧ decide (n < 0) = false ∧ decide (999999999 < n) = true))) := by
        cases p1 with
        | false => exact .inl ⟨rfl, trivial, trivial, trivial⟩
        | true =>
          refine .inr ⟨rfl, rest S ?_⟩
          rcases h with h | h | h | h
          · simp at h
          · simp at h
          · exact .inl (by omega)
          · exact .inr h
      have e0 := HS.out
      clear h0 h1 hk0 hk1 h hS rest HS
      rcases hr with ⟨rfl, t1, t2, t3⟩ | ⟨rfl, ⟨t1, t2, t3⟩ | ⟨t1, t2, t3⟩ | ⟨t1, t2, t3⟩⟩
      all_goals
        go_enter Tryd.func4, Tryd.ntmps4
        go_wp2_with (first | ((with_reducible refine gate_callee (f := 8) rfl ?_); refine goesL_ (some 24) rfl rfl Tryd.func8 (by kernel_rfl) rfl #[.string a0] rfl (by (try simp only [List.map_toArray, List.map_cons, List.map_nil]); first | done | rfl | (simp only [List.length_drop, List.length_take]; rfl)) ?_; (with_reducible refine (laws_plain.calls k0 a0 _ _ HK0.out).mono ?_); rintro e w1 ⟨rfl, hb⟩; refine ⟨_, rfl, ?_⟩; have n0_ := Aside0.mk (below_step (by repeat (first | (with_reducible first | exact HB.out | apply below_alloc | apply pw_below_drewN | apply below_drew1) | exact HB.out)) hb); clear HB; have HB := n0_; clear n0_ hb) | ((with_reducible refine gate_callee (f := 8) rfl ?_); (try (refine gate_guard (by rfl) ?_; dsimp only)); refine goesL_ (some 31) rfl rfl Tryd.func8 (by kernel_rfl) rfl #[.string a1] rfl (by (try simp only [List.map_toArray, List.map_cons, List.map_nil]); first | done | rfl | (simp only [List.length_drop, List.length_take]; rfl)) ?_; (with_reducible refine (laws_plain.calls k1 a1 _ _ HK1.out).mono ?_); rintro e w1 ⟨rfl, hb⟩; refine ⟨_, rfl, ?_⟩; have n0_ := Aside0.mk (below_step (by repeat (first | (with_reducible first | exact HB.out | apply below_alloc | apply pw_below_drewN | apply below_drew1) | exact HB.out)) hb); clear HB; have HB := n0_; clear n0_ hb))
        go_ret
        exact ⟨rfl, by repeat (first | (with_reducible first | exact HB.out | apply below_alloc | apply pw_below_drewN | apply below_drew1) | exact HB.out)⟩
theorem bytes_C (w : World) (s : ByteArray) (hs : s.size ≤ 2147483647) : Kd.C (Kd.int .u8) (Lib.bytesWorld w 5 s) (some ⟨w.heap.size, 0, none⟩) (bytesOf s).length (bytesOf s) := by
  have := bytes_reads w 5 s (by omega)
  rw [← bytesOf_length] at this
  exact Kd.C_of_reads (enc := Value.int .u8) (d := (0 : Int)) (h1 := fun _ => rfl) this
theorem PB_call (T : ByteArray) (hT : T.size ≤ 2147483647) (ea : Addr) (p : Nat × Nat) (r : Option (Nat × Nat)) (n : Int) (hR : pubW (spans (bytesOf T) 0 (-1)) (bytesOf T) (-1) = .ok p r n) (W : World) (cap : Nat) (hcap : T.size ≤ cap) (hE : MaxLaid (Lib.bytesWorld W 5 T) ea) :
    Calls Tryd.prog 7 #[.slice (some ⟨W.heap.size, 0, none⟩) T.size cap, .int .i64 (-1)] (Lib.bytesWorld W 5 T) fun e w' => ∃ A1 c1 A2 c2, e = .returned (.tuple #[.slice A1 (seg (bytesOf T) p).length c1, .slice A2 (segO (bytesOf T) r).length c2, .int .i64 n, .int .i64 0]) ∧ Below (Lib.bytesWorld W 5 T).heap.size (Lib.bytesWorld W 5 T) w' ∧ Kd.C (Kd.int .u8) w' A1 (seg (bytesOf T) p).length (seg (bytesOf T) p) ∧ Kd.C (Kd.int .u8) w' A2 (segO (bytesOf T) r).length (segO (bytesOf T) r) := by
  have := impl_Pub_ok (some ⟨W.heap.size, 0, none⟩) cap (bytesOf T) (-1) (Lib.bytesWorld W 5 T) (bytes_C W T hT) (by rw [bytesOf_length]; exact hcap) (by rw [bytesOf_length]; exact hT) (by decide) (by decide) ea hE hR
  rwa [bytesOf_length T] at this
def gapOf (r : Int) : ByteArray := if r = 0 then ⟨#[32]⟩ else if r = 1 then ⟨#[9]⟩ else if r = 2 then ⟨#[32, 32]⟩ else ⟨#[32, 9, 32]⟩
set_option maxHeartbeats 8000000 in
set_option maxRecDepth 100000 in
/-- Without a reply. -/
theorem PB_main0 (a0 : ByteArray) (n b : Int) (w : World) (h0 : a0.size ≤ 150) (hn : 0 ≤ n) (hn9 : n ≤ 999999999) (hb : 0 ≤ b ∧ b < 256) (k0 : Nat) (hk0 : laws_plain.f k0 a0 = some true) (kd : Nat) (D : ByteArray) (hkd : spec_Digits.f kd n = some D) (hD : D.size ≤ 9) (ea : Addr) (hE : MaxLaid w ea)
    (T : ByteArray) (hT : (a0 ++ gapOf (b % 4)) ++ D = T) (hTs : T.size ≤ 200) (p : Nat × Nat) (hR : pubW (spans (bytesOf T) 0 (-1)) (bytesOf T) (-1) = .ok p none n) (hp : strOfNums (seg (bytesOf T) p) = a0) :
    Calls Tryd.prog 4 #[.string a0, .string ⟨#[]⟩, .int .i64 n, .int .u8 b] w fun e w' => e = .returned (.bool true) ∧ Below w.heap.size w w' := by
  have HB := Aside0.mk (Below.refl w.heap.size w)
  have d1 : decide (2147483647 < (a0.size : Int)) = false := decide_eq_false (by omega)
  have d2 : decide (2147483647 < a0.size) = false := decide_eq_false (by omega)
  have t1 : decide (150 < (a0.size : Int)) = false := decide_eq_false (by omega)
  have t2 : decide (n < 0) = false := decide_eq_false (by omega)
  have t3 : decide (999999999 < n) = false := decide_eq_false (by omega)
  have hgs : (gapOf (b % 4)).size ≤ 3 := by unfold gapOf; split; decide; split; decide; split; decide; decide
  obtain ⟨X, hX⟩ : ∃ X, a0 ++ gapOf (b % 4) = X := ⟨_, rfl⟩
  have hXs : X.size ≤ 153 := by rw [← hX, ByteArray.size_append]; omega
  rw [hX] at hT
  have z1 := eq_false (show ¬ 9223372036854775807 < X.size by omega)
  have z2 := eq_false (show ¬ 9223372036854775807 < T.size by omega)
  have z3 := eq_false (show ¬ 9223372036854775807 < X.size + D.size by omega)
  have z4 := eq_false (show ¬ 9223372036854775807 < a0.size + 1 by omega)
  have z5 := eq_false (show ¬ 9223372036854775807 < a0.size + 2 by omega)
  have z6 := eq_false (show ¬ 9223372036854775807 < a0.size + 3 by omega)
  have hb4 : Int.tmod b 4 = b % 4 := Int.tmod_eq_emod_of_nonneg hb.1
  have hr : b % 4 = 0 ∨ b % 4 = 1 ∨ b % 4 = 2 ∨ b % 4 = 3 := by omega
  have HK0 := Aside0.mk hk0
  have HKD := Aside0.mk hkd
  have HE := Aside0.mk hE
  have HP := Aside0.mk hp
  have HCALL := Aside0.mk (PB_call T (by omega) ea p none n hR)
  have HNIL := Aside0.mk (show strOfNums (segO (bytesOf T) none) = (⟨#[]⟩ : ByteArray) from son_nil)
  have e0 := w64 (a0.size : Int) (a0.size : Int) rfl (by omega) (by omega)
  have hkb : ∀ (s_ : ByteArray) (W_ : World), (convert 9 22 (.string s_)).run Tryd.prog W_ = .ok (.slice (some ⟨W_.heap.size, 0, none⟩) s_.size (grownCap W_ s_.size 0 5)) (Lib.bytesWorld W_ 5 s_) := fun s_ W_ => print_bytes 9 22 5 Tryd.underlying9 Tryd.underlying22 Tryd.underlying5 s_ W_
  clear h0 hn hn9 hk0 hkd hE hp hR hTs hXs hgs hD hb
  rcases hr with hr | hr | hr | hr
  all_goals
    rw [hr] at hX hb4
    simp only [gapOf, if_true, if_false, show ¬ (1 : Int) = 0 by decide, show ¬ (2 : Int) = 0 by decide, show ¬ (2 : Int) = 1 by decide, show ¬ (3 : Int) = 0 by decide, show ¬ (3 : Int) = 1 by decide, show ¬ (3 : Int) = 2 by decide] at hX
    go_enter Tryd.func4, Tryd.ntmps4
    go_wp2_with (first | ((with_reducible refine gate_callee (f := 8) rfl ?_); refine goesL_ (some 24) rfl rfl Tryd.func8 (by kernel_rfl) rfl #[.string a0] rfl (by (try simp only [List.map_toArray, List.map_cons, List.map_nil]); first | done | rfl | (simp only [List.length_drop, List.length_take]; rfl)) ?_; (with_reducible refine (laws_plain.calls k0 a0 _ _ HK0.out).mono ?_); rintro e w1 ⟨rfl, hb⟩; refine ⟨_, rfl, ?_⟩; have n0_ := Aside0.mk (below_step (by repeat (first | (with_reducible first | exact HB.out | apply below_alloc | apply pw_below_drewN | apply below_drew1) | exact HB.out)) hb); clear HB; have HB := n0_; clear n0_ hb) | ((with_reducible refine gate_callee (f := 9) rfl ?_); refine goesL_ (some 69) rfl rfl Tryd.func9 (by kernel_rfl) rfl #[.int .i64 n] rfl (by (try simp only [List.map_toArray, List.map_cons, List.map_nil]); first | done | rfl | (simp only [List.length_drop, List.length_take]; rfl)) ?_; (with_reducible refine (spec_Digits.calls kd n D _ HKD.out).mono ?_); rintro e w2 ⟨rfl, hb⟩; refine ⟨_, rfl, ?_⟩; have n0_ := Aside0.mk (below_step (by repeat (first | (with_reducible first | exact HB.out | apply below_alloc | apply pw_below_drewN | apply below_drew1) | exact HB.out)) hb); clear HB; have HB := n0_; clear n0_ hb) | ((with_reducible refine gate_callee (f := 7) rfl ?_); refine goesL_ (some 72) rfl rfl Tryd.func7 (by kernel_rfl) rfl #[.slice (some ⟨_, 0, none⟩) _ _, .int .i64 (-1)] rfl (by (try simp only [List.map_toArray, List.map_cons, List.map_nil]); first | done | rfl | (simp only [List.length_drop, List.length_take]; rfl)) ?_; (with_reducible refine (HCALL.out _ _ (grownCap_ge _ _ _ _) (HE.out.below (bytes_below (by repeat (first | (with_reducible first | exact HB.out | apply below_alloc | apply pw_below_drewN | apply below_drew1) | exact HB.out)) (below_size (by repeat (first | (with_reducible first | exact HB.out | apply below_alloc | apply pw_below_drewN | apply below_drew1) | exact HB.out))) _ _))).mono ?_); rintro e w5 ⟨A1, c1, A2, c2, rfl, hb, q1, q2⟩; refine ⟨_, rfl, ?_⟩; have hs1 := Kd.C_string Tryd.underlying22 Tryd.underlying5 Tryd.underlying9 (c := c1) q1; rw [HP.out] at hs1; have hs2 := Kd.C_string Tryd.underlying22 Tryd.underlying5 Tryd.underlying9 (c := c2) q2; rw [HNIL.out] at hs2; have n0_ := Aside0.mk (below_step (bytes_below (by repeat (first | (with_reducible first | exact HB.out | apply below_alloc | apply pw_below_drewN | apply below_drew1) | exact HB.out)) (below_size (by repeat (first | (with_reducible first | exact HB.out | apply below_alloc | apply pw_below_drewN | apply below_drew1) | exact HB.out))) _ _) hb); clear HB; have HB := n0_; clear n0_ hb q1 q2))
    go_ret
    exact ⟨rfl, by repeat (first | (with_reducible first | exact HB.out | apply below_alloc | apply pw_below_drewN | apply below_drew1) | exact HB.out)⟩
set_option maxHeartbeats 8000000 in
set_option maxRecDepth 100000 in
/-- With one. -/
theorem PB_main1 (a0 a1 : ByteArray) (n b : Int) (w : World) (h0 : a0.size + a1.size ≤ 150) (hne : a1.toList ≠ []) (hn : 0 ≤ n) (hn9 : n ≤ 999999999) (hb : 0 ≤ b ∧ b < 256) (k0 : Nat) (hk0 : laws_plain.f k0 a0 = some true) (k1 : Nat) (hk1 : laws_plain.f k1 a1 = some true) (kd : Nat) (D : ByteArray) (hkd : spec_Digits.f kd n = some D) (hD : D.size ≤ 9) (ea : Addr) (hE : MaxLaid w ea)
    (T : ByteArray) (hT : ((a0 ++ gapOf (b % 4)) ++ (a1 ++ gapOf (b % 4))) ++ D = T) (hTs : T.size ≤ 200) (p : Nat × Nat) (rr : Nat × Nat) (hR : pubW (spans (bytesOf T) 0 (-1)) (bytesOf T) (-1) = .ok p (some rr) n) (hr2 : strOfNums (seg (bytesOf T) rr) = a1) (hp : strOfNums (seg (bytesOf T) p) = a0) :
    Calls Tryd.prog 4 #[.string a0, .string a1, .int .i64 n, .int .u8 b] w fun e w' => e = .returned (.bool true) ∧ Below w.heap.size w w' := by
  have HB := Aside0.mk (Below.refl w.heap.size w)
  have d1 : decide (2147483647 < (a0.size : Int)) = false := decide_eq_false (by omega)
  have d2 : decide (2147483647 < a0.size) = false := decide_eq_false (by omega)
  have d3 : decide (2147483647 < (a1.size : Int)) = false := decide_eq_false (by omega)
  have d4 : decide (2147483647 < a1.size) = false := decide_eq_false (by omega)
  obtain ⟨S, hS⟩ : ∃ S, S = a0.size + a1.size := ⟨_, rfl⟩
  have t1 : decide (150 < (S : Int)) = false := decide_eq_false (by omega)
  have i1 : a1.toList.isEmpty = false := by cases hl : a1.toList with | nil => exact absurd hl hne | cons x y => rfl
  have t2 : decide (n < 0) = false := decide_eq_false (by omega)
  have t3 : decide (999999999 < n) = false := decide_eq_false (by omega)
  have hgs : (gapOf (b % 4)).size ≤ 3 := by unfold gapOf; split; decide; split; decide; split; decide; decide
  obtain ⟨X, hX⟩ : ∃ X, a0 ++ gapOf (b % 4) = X := ⟨_, rfl⟩
  have hXs : X.size ≤ 153 := by rw [← hX, ByteArray.size_append]; omega
  obtain ⟨Y, hY⟩ : ∃ Y, a1 ++ gapOf (b % 4) = Y := ⟨_, rfl⟩
  obtain ⟨Z, hZ⟩ : ∃ Z, X ++ Y = Z := ⟨_, rfl⟩
  have hYs : Y.size ≤ 153 := by rw [← hY, ByteArray.size_append]; omega
  have hZs : Z.size ≤ 306 := by rw [← hZ, ByteArray.size_append]; omega
  rw [hX, hY, hZ] at hT
  have z1 := eq_false (show ¬ 9223372036854775807 < X.size by omega)
  have z2 := eq_false (show ¬ 9223372036854775807 < T.size by omega)
  have z3 := eq_false (show ¬ 9223372036854775807 < Z.size + D.size by omega)
  have z7 := eq_false (show ¬ 9223372036854775807 < X.size + Y.size by omega)
  have z8 := eq_false (show ¬ 9223372036854775807 < a1.size + 1 by omega)
  have z9 := eq_false (show ¬ 9223372036854775807 < a1.size + 2 by omega)
  have z10 := eq_false (show ¬ 9223372036854775807 < a1.size + 3 by omega)
  have z11 := eq_false (show ¬ 9223372036854775807 < Y.size by omega)
  have z12 := eq_false (show ¬ 9223372036854775807 < Z.size by omega)
  have z4 := eq_false (show ¬ 9223372036854775807 < a0.size + 1 by omega)
  have z5 := eq_false (show ¬ 9223372036854775807 < a0.size + 2 by omega)
  have z6 := eq_false (show ¬ 9223372036854775807 < a0.size + 3 by omega)
  have hb4 : Int.tmod b 4 = b % 4 := Int.tmod_eq_emod_of_nonneg hb.1
  have hr : b % 4 = 0 ∨ b % 4 = 1 ∨ b % 4 = 2 ∨ b % 4 = 3 := by omega
  have HK0 := Aside0.mk hk0
  have HKD := Aside0.mk hkd
  have HE := Aside0.mk hE
  have HP := Aside0.mk hp
  have HCALL := Aside0.mk (PB_call T (by omega) ea p (some rr) n hR)
  have HNIL := Aside0.mk (show strOfNums (segO (bytesOf T) (some rr)) = a1 from hr2)
  have HK1 := Aside0.mk hk1
  have e0 := w64 ((a0.size : Int) + (a1.size : Int)) (S : Int) (by omega) (by omega) (by omega)
  have hkb : ∀ (s_ : ByteArray) (W_ : World), (convert 9 22 (.string s_)).run Tryd.prog W_ = .ok (.slice (some ⟨W_.heap.size, 0, none⟩) s_.size (grownCap W_ s_.size 0 5)) (Lib.bytesWorld W_ 5 s_) := fun s_ W_ => print_bytes 9 22 5 Tryd.underlying9 Tryd.underlying22 Tryd.underlying5 s_ W_
  clear h0 hn hn9 hk0 hk1 hkd hE hp hr2 hR hTs hXs hYs hZs hgs hD hb hS hne
  rcases hr with hr | hr | hr | hr
  all_goals
    rw [hr] at hX hY hb4
    simp only [gapOf, if_true, if_false, show ¬ (1 : Int) = 0 by decide, show ¬ (2 : Int) = 0 by decide, show ¬ (2 : Int) = 1 by decide, show ¬ (3 : Int) = 0 by decide, show ¬ (3 : Int) = 1 by decide, show ¬ (3 : Int) = 2 by decide] at hX hY
    go_enter Tryd.func4, Tryd.ntmps4
    go_wp2_with (first | ((with_reducible refine gate_callee (f := 8) rfl ?_); (try (refine gate_guard (by rfl) ?_; dsimp only)); refine goesL_ (some 31) rfl rfl Tryd.func8 (by kernel_rfl) rfl #[.string a1] rfl (by (try simp only [List.map_toArray, List.map_cons, List.map_nil]); first | done | rfl | (simp only [List.length_drop, List.length_take]; rfl)) ?_; (with_reducible refine (laws_plain.calls k1 a1 _ _ HK1.out).mono ?_); rintro e w1 ⟨rfl, hb⟩; refine ⟨_, rfl, ?_⟩; have n0_ := Aside0.mk (below_step (by repeat (first | (with_reducible first | exact HB.out | apply below_alloc | apply pw_below_drewN | apply below_drew1) | exact HB.out)) hb); clear HB; have HB := n0_; clear n0_ hb) | ((with_reducible refine gate_callee (f := 8) rfl ?_); refine goesL_ (some 24) rfl rfl Tryd.func8 (by kernel_rfl) rfl #[.string a0] rfl (by (try simp only [List.map_toArray, List.map_cons, List.map_nil]); first | done | rfl | (simp only [List.length_drop, List.length_take]; rfl)) ?_; (with_reducible refine (laws_plain.calls k0 a0 _ _ HK0.out).mono ?_); rintro e w1 ⟨rfl, hb⟩; refine ⟨_, rfl, ?_⟩; have n0_ := Aside0.mk (below_step (by repeat (first | (with_reducible first | exact HB.out | apply below_alloc | apply pw_below_drewN | apply below_drew1) | exact HB.out)) hb); clear HB; have HB := n0_; clear n0_ hb) | ((with_reducible refine gate_callee (f := 9) rfl ?_); refine goesL_ (some 69) rfl rfl Tryd.func9 (by kernel_rfl) rfl #[.int .i64 n] rfl (by (try simp only [List.map_toArray, List.map_cons, List.map_nil]); first | done | rfl | (simp only [List.length_drop, List.length_take]; rfl)) ?_; (with_reducible refine (spec_Digits.calls kd n D _ HKD.out).mono ?_); rintro e w2 ⟨rfl, hb⟩; refine ⟨_, rfl, ?_⟩; have n0_ := Aside0.mk (below_step (by repeat (first | (with_reducible first | exact HB.out | apply below_alloc | apply pw_below_drewN | apply below_drew1) | exact HB.out)) hb); clear HB; have HB := n0_; clear n0_ hb) | ((with_reducible refine gate_callee (f := 7) rfl ?_); refine goesL_ (some 72) rfl rfl Tryd.func7 (by kernel_rfl) rfl #[.slice (some ⟨_, 0, none⟩) _ _, .int .i64 (-1)] rfl (by (try simp only [List.map_toArray, List.map_cons, List.map_nil]); first | done | rfl | (simp only [List.length_drop, List.length_take]; rfl)) ?_; (with_reducible refine (HCALL.out _ _ (grownCap_ge _ _ _ _) (HE.out.below (bytes_below (by repeat (first | (with_reducible first | exact HB.out | apply below_alloc | apply pw_below_drewN | apply below_drew1) | exact HB.out)) (below_size (by repeat (first | (with_reducible first | exact HB.out | apply below_alloc | apply pw_below_drewN | apply below_drew1) | exact HB.out))) _ _))).mono ?_); rintro e w5 ⟨A1, c1, A2, c2, rfl, hb, q1, q2⟩; refine ⟨_, rfl, ?_⟩; have hs1 := Kd.C_string Tryd.underlying22 Tryd.underlying5 Tryd.underlying9 (c := c1) q1; rw [HP.out] at hs1; have hs2 := Kd.C_string Tryd.underlying22 Tryd.underlying5 Tryd.underlying9 (c := c2) q2; rw [HNIL.out] at hs2; have n0_ := Aside0.mk (below_step (bytes_below (by repeat (first | (with_reducible first | exact HB.out | apply below_alloc | apply pw_below_drewN | apply below_drew1) | exact HB.out)) (below_size (by repeat (first | (with_reducible first | exact HB.out | apply below_alloc | apply pw_below_drewN | apply below_drew1) | exact HB.out))) _ _) hb); clear HB; have HB := n0_; clear n0_ hb q1 q2))
    go_ret
    exact ⟨rfl, by repeat (first | (with_reducible first | exact HB.out | apply below_alloc | apply pw_below_drewN | apply below_drew1) | exact HB.out)⟩
def laws_FnPubBack.f (a0 a1 : ByteArray) (a2 a3 : Int) : Option Bool := if 0 ≤ a3 ∧ a3 < 256 then some true else none
theorem bo_append (a b : ByteArray) : bytesOf (a ++ b) = bytesOf a ++ bytesOf b := by simp [bytesOf]
theorem gap_bbl (r : Int) : bbl (bytesOf (gapOf r)) ∧ bytesOf (gapOf r) ≠ [] ∧ (bytesOf (gapOf r)).length ≤ 3 := by
  unfold gapOf
  split
  · exact ⟨by unfold bbl; decide, by decide, by decide⟩
  · split
    · exact ⟨by unfold bbl; decide, by decide, by decide⟩
    · split
      · exact ⟨by unfold bbl; decide, by decide, by decide⟩
      · exact ⟨by unfold bbl; decide, by decide, by decide⟩
theorem bo_son {d : List Int} (h : dig d) : bytesOf (strOfNums d) = d := by
  have : ∀ x ∈ d, 0 ≤ x ∧ x < 256 := fun x hx => by have := h x hx; omega
  unfold bytesOf strOfNums
  simp only [List.map_map]
  conv => rhs; rw [← List.map_id d]
  apply List.map_congr_left
  intro x hx
  have := this x hx
  simp only [Function.comp, UInt8.toNat_ofNat', id]
  omega
theorem laws_FnPubBack.calls (a0 a1 : ByteArray) (a2 a3 : Int) (r : Bool) (w : World) (h : laws_FnPubBack.f a0 a1 a2 a3 = some r) (hE : MaxOk w) :
    Calls Tryd.prog 4 #[.string a0, .string a1, .int .i64 a2, .int .u8 a3] w fun e w' => e = .returned (.bool r) ∧ Below w.heap.size w w' := by
  unfold laws_FnPubBack.f at h
  split at h
  · rename_i hb
    obtain rfl := Option.some.inj h
    obtain ⟨ea, hE⟩ := hE
    by_cases hbig : 2147483647 < a0.size ∨ 2147483647 < a1.size
    · exact PB_big a0 a1 a2 a3 w hbig
    · have s0 : a0.size ≤ 2147483647 := by omega
      have s1 : a1.size ≤ 2147483647 := by omega
      obtain ⟨k0, hk0⟩ := Ev.rounds (plain_ev a0 s0)
      obtain ⟨k1, hk1⟩ := Ev.rounds (plain_ev a1 s1)
      by_cases ho : plainV a0 = false ∨ (a1.toList ≠ [] ∧ plainV a1 = false) ∨ 150 < a0.size + a1.size ∨ a2 < 0 ∨ 999999999 < a2
      · exact PB_out a0 a1 a2 a3 w s0 s1 k0 k1 _ _ hk0 hk1 ho
      · have hp0 : plainV a0 = true := by cases hh : plainV a0 with | true => rfl | false => exact absurd (.inl hh) ho
        obtain ⟨n, rfl⟩ := Int.eq_ofNat_of_zero_le (show 0 ≤ a2 from Int.not_lt.1 fun h => ho (.inr (.inr (.inr (.inl h)))))
        have hn : n < 1000000000 := by
          have : ¬ (999999999 : Int) < (n : Int) := fun h => ho (.inr (.inr (.inr (.inr h))))
          omega
        have hsum : a0.size + a1.size ≤ 150 := Nat.not_lt.1 fun h => ho (.inr (.inr (.inl h)))
        obtain ⟨d, hde, hdd, hd0, hd9, hdv⟩ := Digits_ev n hn
        obtain ⟨kd, hkd⟩ := Ev.rounds hde
        rw [hp0] at hk0
        obtain ⟨na, ne⟩ := plain_nbl hp0
        obtain ⟨gb, g0, g3⟩ := gap_bbl (a3 % 4)
        have hdn : d ≠ [] := by intro e; rw [e] at hd0; simp at hd0
        have la := bytesOf_length a0
        by_cases he : a1.toList = []
        · obtain rfl := empty_of he
          have hT : bytesOf ((a0 ++ gapOf (a3 % 4)) ++ strOfNums d) = bytesOf a0 ++ (bytesOf (gapOf (a3 % 4)) ++ d) := by rw [bo_append, bo_append, bo_son hdd, List.append_assoc]
          have hsp := spans2 (bytesOf a0) (bytesOf (gapOf (a3 % 4))) d na ne gb g0 (dig_nbl hdd) hdn
          rw [← hT] at hsp
          refine PB_main0 a0 (n : Int) a3 w (by omega) (by omega) (by omega) hb k0 hk0 kd (strOfNums d) hkd (by rw [son_size]; omega) ea hE _ rfl ?_ (0, (bytesOf a0).length) ?_ ?_
          · rw [← bytesOf_length, hT]
            simp only [List.length_append]
            omega
          · rw [hsp]
            show pubFin (-1) _ none (psz (seg _ _)) = _
            have hz : seg (bytesOf ((a0 ++ gapOf (a3 % 4)) ++ strOfNums d)) ((bytesOf a0).length + (bytesOf (gapOf (a3 % 4))).length, (bytesOf a0).length + (bytesOf (gapOf (a3 % 4))).length + d.length) = d := by
              have e : bytesOf a0 ++ (bytesOf (gapOf (a3 % 4)) ++ d) = (bytesOf a0 ++ bytesOf (gapOf (a3 % 4))) ++ (d ++ []) := by simp
              rw [hT, e]
              exact seg_mid _ d [] _ _ (by simp) rfl
            rw [hz, hdv]
            unfold pubFin
            rw [if_neg (by omega), if_neg (fun h => h.1 rfl)]
          · have hz : seg (bytesOf ((a0 ++ gapOf (a3 % 4)) ++ strOfNums d)) (0, (bytesOf a0).length) = bytesOf a0 := by
              rw [hT]
              exact seg_mid [] (bytesOf a0) _ 0 _ rfl (by simp)
            rw [hz, strOfNums_bytesOf]
        · have hp1 : plainV a1 = true := by cases hh : plainV a1 with | true => rfl | false => exact absurd (.inr (.inl ⟨he, hh⟩)) ho
          rw [hp1] at hk1
          obtain ⟨nb, nbe⟩ := plain_nbl hp1
          have lb := bytesOf_length a1
          have hT : bytesOf (((a0 ++ gapOf (a3 % 4)) ++ (a1 ++ gapOf (a3 % 4))) ++ strOfNums d) = bytesOf a0 ++ (bytesOf (gapOf (a3 % 4)) ++ (bytesOf a1 ++ (bytesOf (gapOf (a3 % 4)) ++ d))) := by rw [bo_append, bo_append, bo_append, bo_append, bo_son hdd]; simp
          have hsp := spans3 (bytesOf a0) (bytesOf (gapOf (a3 % 4))) (bytesOf a1) d na ne gb g0 nb nbe (dig_nbl hdd) hdn
          rw [← hT] at hsp
          refine PB_main1 a0 a1 (n : Int) a3 w hsum he (by omega) (by omega) hb k0 hk0 k1 hk1 kd (strOfNums d) hkd (by rw [son_size]; omega) ea hE _ rfl ?_ (0, (bytesOf a0).length) ((bytesOf a0).length + (bytesOf (gapOf (a3 % 4))).length, (bytesOf a0).length + (bytesOf (gapOf (a3 % 4))).length + (bytesOf a1).length) ?_ ?_ ?_
          · rw [← bytesOf_length, hT]
            simp only [List.length_append]
            omega
          · rw [hsp]
            show pubFin (-1) _ (some _) (psz (seg _ _)) = _
            have hz : seg (bytesOf (((a0 ++ gapOf (a3 % 4)) ++ (a1 ++ gapOf (a3 % 4))) ++ strOfNums d)) ((bytesOf a0).length + (bytesOf (gapOf (a3 % 4))).length + (bytesOf a1).length + (bytesOf (gapOf (a3 % 4))).length, (bytesOf a0).length + (bytesOf (gapOf (a3 % 4))).length + (bytesOf a1).length + (bytesOf (gapOf (a3 % 4))).length + d.length) = d := by
              have e : bytesOf a0 ++ (bytesOf (gapOf (a3 % 4)) ++ (bytesOf a1 ++ (bytesOf (gapOf (a3 % 4)) ++ d))) = (bytesOf a0 ++ (bytesOf (gapOf (a3 % 4)) ++ (bytesOf a1 ++ bytesOf (gapOf (a3 % 4))))) ++ (d ++ []) := by simp
              rw [hT, e]
              exact seg_mid _ d [] _ _ (by simp only [List.length_append]; omega) rfl
            rw [hz, hdv]
            unfold pubFin
            rw [if_neg (by omega), if_neg (fun h => h.1 rfl)]
          · have hz : seg (bytesOf (((a0 ++ gapOf (a3 % 4)) ++ (a1 ++ gapOf (a3 % 4))) ++ strOfNums d)) ((bytesOf a0).length + (bytesOf (gapOf (a3 % 4))).length, (bytesOf a0).length + (bytesOf (gapOf (a3 % 4))).length + (bytesOf a1).length) = bytesOf a1 := by
              rw [hT, ← List.append_assoc]
              exact seg_mid _ (bytesOf a1) _ _ _ (by simp) rfl
            rw [hz, strOfNums_bytesOf]
          · have hz : seg (bytesOf (((a0 ++ gapOf (a3 % 4)) ++ (a1 ++ gapOf (a3 % 4))) ++ strOfNums d)) (0, (bytesOf a0).length) = bytesOf a0 := by
              rw [hT]
              exact seg_mid [] (bytesOf a0) _ 0 _ rfl (by simp)
            rw [hz, strOfNums_bytesOf]
  · exact absurd h (by simp)
end



/-- THE ONE PURE STATEMENT of laws_FnPubBack: yours. -/
def laws_FnPubBack.Pure : Prop := ∀ (a0 : ByteArray) (a1 : ByteArray) (a2 : Int) (a3 : Int), a0.size ≤ 140737488351232 → a1.size ≤ 140737488351232 → (Lit.int .i64 a2).wf = true → (Lit.int .u8 a3).wf = true → laws_FnPubBack.f a0 a1 a2 a3 = some true
theorem laws_FnPubBack.walk (P : laws_FnPubBack.Pure) (a0 : ByteArray) (a1 : ByteArray) (a2 : Int) (a3 : Int) (w : World) (w0 : a0.size ≤ 140737488351232) (w1 : a1.size ≤ 140737488351232) (w2 : (Lit.int .i64 a2).wf = true) (w3 : (Lit.int .u8 a3).wf = true) (hE_ : Go.Proofs.YtaobajfdnidkfaaDoor.PFnPubBack.MaxOk w) :
    Calls Tryd.prog 4 #[.string a0, .string a1, .int .i64 a2, .int .u8 a3] w fun e w' => e = .returned (.bool true) ∧ Below w.heap.size w w' := by
  have h := P a0 a1 a2 a3 w0 w1 w2 w3
  refine (laws_FnPubBack.calls a0 a1 a2 a3 true w h hE_).mono ?_
  rintro e w' ⟨rfl, hd⟩
  exact ⟨rfl, hd⟩

end Go.Proofs.YtaobajfdnidkfaaDoor.PFnPubBack
