/- The tokens of a subject, one by one, with points between, are the subject, and there is none behind the last one, at every text. No condition. -/
import Derived.Test.YtaobajfdnidkfaaPFnTokensBackx
import Derived.Test.YtaobajfdnidkfaaRoad
namespace Go.Proofs.Ytaobajfdnidkfaa.Pure
open Go.RowKit Go.Proofs.Ytaobajfdnidkfaa.PFnTokensBack Go.Proofs.YtaobajfdnidkfaaW.PrintWords Go.Proofs.YtaobajfdnidkfaaW.PrintLast Go.Proofs.Ytaobajfdnidkfaa.Road
set_option linter.unusedVariables false
set_option linter.unusedSimpArgs false

theorem Tokens_loop (s : ByteArray) (hs : s.size ≤ 2147483647) (d : Nat) : ∀ (i a : Nat) (out : List ByteArray), a ≤ i → i ≤ (bl s).length → (bl s).length - i = d → out.length + d < 8796093022208 →
    Ev (fun k => spec_Tokens.l0 k s out (a : Int) (i : Int)) (out ++ (toks (((bl s).take i).drop a) ((bl s).drop i)).map mkB) := by
  have hl := bl_len s
  induction d with
  | zero =>
    intro i a out h1 h2 h3 h4
    have hi : i = (bl s).length := by omega
    refine Ev.step (f := fun _ => some (out ++ [s.extract a s.size])) (fun k => ?_) ?_
    · simp only [spec_Tokens.l0]
      rw [if_neg (by omega), if_pos (by omega), if_pos (by omega), if_pos (by omega)]
      simp
    · rw [hi, List.drop_length, List.take_length, extract_mkB, ← hl, List.take_length]
      exact Ev.now _
  | succ d ih =>
    intro i a out h1 h2 h3 h4
    have hlt : i < (bl s).length := by omega
    have hb := bt_get s i hlt
    rw [drop_get _ _ hlt]
    by_cases hc : (bl s)[i] = 46
    · refine Ev.step (f := fun k => spec_Tokens.l0 k s (out ++ [s.extract a i]) ((i + 1 : Nat) : Int) ((i + 1 : Nat) : Int)) (fun k => ?_) ?_
      · simp only [spec_Tokens.l0]
        rw [if_pos (by omega), if_pos (by omega), if_pos (by rw [hb, hc]; rfl), if_pos (by omega), if_pos (by omega), if_pos (by omega), if_pos (by omega), wrap_nat i (by omega)]
        simp
      · have := ih (i + 1) (i + 1) (out ++ [s.extract a i]) (Nat.le_refl _) (by omega) (by omega) (by simp; omega)
        rw [toks, if_pos hc]
        simpa [extract_mkB] using this
    · refine Ev.step (f := fun k => spec_Tokens.l0 k s out (a : Int) ((i + 1 : Nat) : Int)) (fun k => ?_) ?_
      · simp only [spec_Tokens.l0]
        rw [if_pos (by omega), if_pos (by omega), if_neg (by rw [hb]; intro h; exact hc ((u8_eq _ 46 (by omega)).1 h)), wrap_nat i (by omega)]
      · have := ih (i + 1) a out (by omega) (by omega) (by omega) (by omega)
        rw [toks, if_neg hc, ← take_drop_snoc _ _ _ h1 hlt]
        exact this

theorem Tokens_ev (s : ByteArray) (hs : s.size ≤ 2147483647) : Ev (fun k => spec_Tokens.f k s) ((toks [] (bl s)).map mkB) := by
  have := Tokens_loop s hs (bl s).length 0 0 [] (by omega) (by omega) (by omega) (by have := bl_len s; simp; omega)
  simpa [spec_Tokens.f] using this

theorem tok_get (ts : List Bs) (i : Nat) (h : i < ts.length) : (rdOf ByteArray.empty (ts.map mkB) (i : Int)).toList = ts[i] := by
  rw [rdOf_nat _ _ _ (by simpa using h)]
  simp [toList_mkB]

theorem Formed_loop (ts : List Bs) (hs : ts.length ≤ 2147483648) (d : Nat) : ∀ i : Nat, i ≤ ts.length → ts.length - i = d → Ev (fun k => spec_Formed.l0 k (ts.map mkB) (i : Int)) (formedB (ts.drop i)) := by
  induction d with
  | zero =>
    intro i h1 h2
    refine Ev.step (f := fun _ => some true) (fun k => ?_) ?_
    · simp only [spec_Formed.l0]
      rw [if_neg (by simp; omega)]
    · rw [List.drop_of_length_le (by omega)]
      exact Ev.now _
  | succ d ih =>
    intro i h1 h2
    have hlt : i < ts.length := by omega
    have hg := tok_get ts i hlt
    have hi := ih (i + 1) (by omega) (by omega)
    rw [drop_get _ _ hlt]
    by_cases e1 : ts[i] = []
    · refine Ev.step (f := fun _ => some false) (fun k => ?_) ?_
      · simp only [spec_Formed.l0]
        rw [if_pos (by simp; omega), if_pos (by omega), if_pos (by rw [hg]; exact e1)]
      · simp only [formedB, if_pos e1]
        exact Ev.now _
    · by_cases e2 : ts[i] = [62]
      · by_cases e3 : ts.drop (i + 1) = []
        · refine Ev.step (f := fun k => spec_Formed.l0 k (ts.map mkB) ((i + 1 : Nat) : Int)) (fun k => ?_) ?_
          · simp only [spec_Formed.l0]
            rw [if_pos (by simp; omega), if_pos (by omega), if_neg (by rw [hg]; exact e1), if_pos (by rw [hg]; exact e2), wrap_nat i (by omega), if_neg (by simp at e3; simp; omega)]
          · simp only [formedB, if_neg e1, if_pos e2, if_pos e3]
            exact hi
        · refine Ev.step (f := fun _ => some false) (fun k => ?_) ?_
          · simp only [spec_Formed.l0]
            rw [if_pos (by simp; omega), if_pos (by omega), if_neg (by rw [hg]; exact e1), if_pos (by rw [hg]; exact e2), wrap_nat i (by omega), if_pos (by simp at e3; simp; omega)]
          · simp only [formedB, if_neg e1, if_pos e2, if_neg e3]
            exact Ev.now _
      · refine Ev.step (f := fun k => spec_Formed.l0 k (ts.map mkB) ((i + 1 : Nat) : Int)) (fun k => ?_) ?_
        · simp only [spec_Formed.l0]
          rw [if_pos (by simp; omega), if_pos (by omega), if_neg (by rw [hg]; exact e1), if_neg (by rw [hg]; exact e2), wrap_nat i (by omega)]
        · simp only [formedB, if_neg e1, if_neg e2]
          exact hi

theorem Formed_ev (ts : List Bs) (hs : ts.length ≤ 2147483648) : Ev (fun k => spec_Formed.f k (ts.map mkB)) (formedB ts) := by
  have := Formed_loop ts hs ts.length 0 (by omega) (by omega)
  simpa [spec_Formed.f] using this

theorem Blank_of (c : UInt8) : spec_Blank.f (c.toNat : Int) = some (blankB c) := by
  have e32 : (c.toNat : Int) = 32 ↔ c = 32 := u8_eq c 32 (by omega)
  have e9 : (c.toNat : Int) = 9 ↔ c = 9 := u8_eq c 9 (by omega)
  have e10 : (c.toNat : Int) = 10 ↔ c = 10 := u8_eq c 10 (by omega)
  have e13 : (c.toNat : Int) = 13 ↔ c = 13 := u8_eq c 13 (by omega)
  have e12 : (c.toNat : Int) = 12 ↔ c = 12 := u8_eq c 12 (by omega)
  unfold spec_Blank.f blankB
  by_cases h1 : c = 32
  · rw [if_pos (e32.2 h1)]; simp [h1]
  · rw [if_neg (fun h => h1 (e32.1 h))]
    by_cases h2 : c = 9
    · rw [if_pos (e9.2 h2)]; simp [h2]
    · rw [if_neg (fun h => h2 (e9.1 h))]
      by_cases h3 : c = 10
      · rw [if_pos (e10.2 h3)]; simp [h3]
      · rw [if_neg (fun h => h3 (e10.1 h))]
        by_cases h4 : c = 13
        · rw [if_pos (e13.2 h4)]; simp [h4]
        · rw [if_neg (fun h => h4 (e13.1 h))]
          by_cases h5 : c = 12
          · have : ((c.toNat : Int) == 12) = true := beq_iff_eq.2 (e12.2 h5)
            rw [this]; simp [h5]
          · have : ((c.toNat : Int) == 12) = false := beq_eq_false_iff_ne.2 (fun h => h5 (e12.1 h))
            rw [this]; simp [h1, h2, h3, h4, h5]

theorem Spaced_loop (s : ByteArray) (hs : s.size ≤ 2147483647) (d : Nat) : ∀ i : Nat, i ≤ (bl s).length → (bl s).length - i = d → Ev (fun k => spec_Spaced.l0 k s (i : Int)) (spacedB ((bl s).drop i)) := by
  have hl := bl_len s
  induction d with
  | zero =>
    intro i h1 h2
    refine Ev.step (f := fun _ => some false) (fun k => ?_) ?_
    · simp only [spec_Spaced.l0]
      rw [if_neg (by omega)]
    · rw [List.drop_of_length_le (by omega)]
      exact Ev.now _
  | succ d ih =>
    intro i h1 h2
    have hlt : i < (bl s).length := by omega
    have hb := bt_get s i hlt
    rw [drop_get _ _ hlt]
    by_cases hc : blankB (bl s)[i] = true
    · refine Ev.step (f := fun _ => some true) (fun k => ?_) ?_
      · simp only [spec_Spaced.l0]
        rw [if_pos (by omega), if_pos (by omega), hb, Blank_of, hc]
        simp
      · rw [spacedB_cons, hc, Bool.true_or]
        exact Ev.now _
    · have hc' : blankB (bl s)[i] = false := by simpa using hc
      refine Ev.step (f := fun k => spec_Spaced.l0 k s ((i + 1 : Nat) : Int)) (fun k => ?_) ?_
      · simp only [spec_Spaced.l0]
        rw [if_pos (by omega), if_pos (by omega), hb, Blank_of, hc', wrap_nat i (by omega)]
        simp
      · rw [spacedB_cons, hc', Bool.false_or]
        exact ih (i + 1) (by omega) (by omega)

theorem Spaced_ev (s : ByteArray) (hs : s.size ≤ 2147483647) : Ev (fun k => spec_Spaced.f k s) (spacedB (bl s)) := by
  have := Spaced_loop s hs (bl s).length 0 (by omega) (by omega)
  simpa [spec_Spaced.f] using this

theorem SValid_ev (s : ByteArray) (hs : s.size ≤ 2147483647) : Ev (fun k => spec_Valid.f k s) (sValidB (bl s)) := by
  have hl := bl_len s
  have hc := toks_length_le (bl s)
  unfold spec_Valid.f sValidB
  refine Ev.bind (Tokens_ev s hs) (Ev.bind (Formed_ev _ (by omega)) ?_)
  cases formedB (toks [] (bl s)) with
  | true =>
    simp only [if_true]
    refine Ev.bind (Spaced_ev s hs) ?_
    simp only [Bool.true_and]
    exact Ev.now _
  | false =>
    simp
    exact Ev.now _

theorem clean_loop (s : ByteArray) (hs : s.size ≤ 2147483647) (d : Nat) : ∀ i : Nat, i ≤ (bl s).length → (bl s).length - i = d → Ev (fun k => laws_clean.l0 k s (i : Int)) (decide ((bl s).length ≤ 400) && ((bl s).drop i).all cleanC) := by
  have hl := bl_len s
  induction d with
  | zero =>
    intro i h1 h2
    refine Ev.step (f := fun k => laws_clean.j1 k s (i : Int) false) (fun k => ?_) (Ev.step (f := fun _ => some (decide ((s.size : Int) ≤ 400))) (fun k => ?_) ?_)
    · simp only [laws_clean.l0]
      rw [if_neg (by omega)]
    · simp [laws_clean.j1]
    · rw [List.drop_of_length_le (by omega)]
      have : decide ((s.size : Int) ≤ 400) = (decide ((bl s).length ≤ 400) && List.all ([] : Bs) cleanC) := by
        simp only [List.all_nil, Bool.and_true]
        exact decide_eq_decide.2 (by omega)
      rw [this]
      exact Ev.now _
  | succ d ih =>
    intro i h1 h2
    have hlt : i < (bl s).length := by omega
    have hb := bt_get s i hlt
    rw [drop_get _ _ hlt]
    by_cases h4 : i ≤ 400
    · refine Ev.step (f := fun k => laws_clean.j1 k s (i : Int) true) (fun k => ?_) ?_
      · simp only [laws_clean.l0]
        rw [if_pos (by omega), decide_eq_true (by omega)]
      · by_cases e1 : ((bl s)[i].toNat : Int) ≤ 32
        · refine Ev.step (f := fun _ => some false) (fun k => ?_) ?_
          · simp only [laws_clean.j1]
            rw [if_pos trivial, if_pos (by omega), if_pos (by omega), if_pos (by rw [hb]; exact e1)]
          · have : cleanC (bl s)[i] = false := cleanC_lo e1
            simp only [List.all_cons, this, Bool.false_and, Bool.and_false]
            exact Ev.now _
        · by_cases e2 : (bl s)[i] = 127
          · refine Ev.step (f := fun _ => some false) (fun k => ?_) ?_
            · simp only [laws_clean.j1]
              rw [if_pos trivial, if_pos (by omega), if_pos (by omega), if_neg (by rw [hb]; exact e1), if_pos (by rw [hb, e2]; rfl)]
            · have : cleanC (bl s)[i] = false := cleanC_del e2
              simp only [List.all_cons, this, Bool.false_and, Bool.and_false]
              exact Ev.now _
          · refine Ev.step (f := fun k => laws_clean.l0 k s ((i + 1 : Nat) : Int)) (fun k => ?_) ?_
            · simp only [laws_clean.j1]
              rw [if_pos trivial, if_pos (by omega), if_pos (by omega), if_neg (by rw [hb]; exact e1), if_neg (by rw [hb]; intro h; exact e2 ((u8_eq _ 127 (by omega)).1 h)), wrap_nat i (by omega)]
            · have : cleanC (bl s)[i] = true := cleanC_ok e1 e2
              simp only [List.all_cons, this, Bool.true_and]
              exact ih (i + 1) (by omega) (by omega)
    · refine Ev.step (f := fun k => laws_clean.j1 k s (i : Int) false) (fun k => ?_) (Ev.step (f := fun _ => some (decide ((s.size : Int) ≤ 400))) (fun k => ?_) ?_)
      · simp only [laws_clean.l0]
        rw [if_pos (by omega), decide_eq_false (by omega)]
      · simp [laws_clean.j1]
      · rw [decide_eq_false (by omega), decide_eq_false (p := (bl s).length ≤ 400) (by omega)]
        exact Ev.now _

theorem clean_ev (s : ByteArray) (hs : s.size ≤ 2147483647) : Ev (fun k => laws_clean.f k s) (cleanB (bl s)) := by
  have := clean_loop s hs (bl s).length 0 (by omega) (by omega)
  simpa [laws_clean.f, cleanB] using this

theorem tame_inner (ts : List Bs) (i : Nat) (hlt : i < ts.length) (hsz : ts[i].length ≤ 2147483648) (d : Nat) : ∀ j : Nat, j ≤ ts[i].length → ts[i].length - j = d → ∀ r : Bool,
    Ev (fun k => laws_tame.l0 k (ts.map mkB) ((i + 1 : Nat) : Int)) r →
    i < 2147483649 →
    Ev (fun k => laws_tame.l1 k (ts.map mkB) (i : Int) (j : Int)) ((decide (ts[i].length ≤ 1) || (ts[i].drop j).all fun c => c != 42 && c != 62) && r) := by
  have hrd : rdOf ByteArray.empty (ts.map mkB) (i : Int) = mkB ts[i] := by rw [rdOf_nat _ _ _ (by simpa using hlt)]; simp
  have hsize : (rdOf ByteArray.empty (ts.map mkB) (i : Int)).size = ts[i].length := by rw [hrd, size_mkB]
  induction d with
  | zero =>
    intro j h1 h2 r hr hi
    refine Ev.step (f := fun k => laws_tame.j2 k (ts.map mkB) (i : Int) (j : Int) false) (fun k => ?_) (Ev.step (f := fun k => laws_tame.l0 k (ts.map mkB) ((i + 1 : Nat) : Int)) (fun k => ?_) ?_)
    · simp only [laws_tame.l1]
      rw [if_pos (by omega), if_pos (by simp; omega), if_neg (by rw [hsize]; omega)]
    · simp only [laws_tame.j2]
      rw [if_neg (by simp), wrap_nat i (by omega)]
    · rw [List.drop_of_length_le (by omega)]
      simpa using hr
  | succ d ih =>
    intro j h1 h2 r hr hi
    have hj : j < ts[i].length := by omega
    by_cases h3 : ts[i].length ≤ 1
    · refine Ev.step (f := fun k => laws_tame.j2 k (ts.map mkB) (i : Int) (j : Int) false) (fun k => ?_) (Ev.step (f := fun k => laws_tame.l0 k (ts.map mkB) ((i + 1 : Nat) : Int)) (fun k => ?_) ?_)
      · simp only [laws_tame.l1]
        rw [if_pos (by omega), if_pos (by simp; omega), if_pos (by rw [hsize]; omega), decide_eq_false (by rw [hsize]; omega)]
      · simp only [laws_tame.j2]
        rw [if_neg (by simp), wrap_nat i (by omega)]
      · rw [decide_eq_true h3]
        simpa using hr
    · have hb : bt (rdOf ByteArray.empty (ts.map mkB) (i : Int)) (j : Int) = ((ts[i][j]).toNat : Int) := by
        rw [hrd, bt_get _ _ (by rw [bl_mkB]; exact hj)]
        simp only [bl_mkB]
      rw [drop_get _ _ hj]
      refine Ev.step (f := fun k => laws_tame.j2 k (ts.map mkB) (i : Int) (j : Int) true) (fun k => ?_) ?_
      · simp only [laws_tame.l1]
        rw [if_pos (by omega), if_pos (by simp; omega), if_pos (by rw [hsize]; omega), decide_eq_true (by rw [hsize]; omega)]
      · by_cases e1 : ts[i][j] = 42
        · refine Ev.step (f := fun _ => some false) (fun k => ?_) ?_
          · simp only [laws_tame.j2]
            rw [if_pos trivial, if_pos (by omega), if_pos (by simp; omega), if_pos (by omega), if_pos (by rw [hsize]; omega), if_pos (by rw [hb, e1]; rfl)]
          · rw [decide_eq_false h3]
            simp only [List.all_cons, e1]
            exact Ev.now _
        · by_cases e2 : ts[i][j] = 62
          · refine Ev.step (f := fun _ => some false) (fun k => ?_) ?_
            · simp only [laws_tame.j2]
              rw [if_pos trivial, if_pos (by omega), if_pos (by simp; omega), if_pos (by omega), if_pos (by rw [hsize]; omega), if_neg (by rw [hb]; intro h; exact e1 ((u8_eq _ 42 (by omega)).1 h)), if_pos (by rw [hb, e2]; rfl)]
            · rw [decide_eq_false h3]
              simp only [List.all_cons, e2]
              exact Ev.now _
          · refine Ev.step (f := fun k => laws_tame.l1 k (ts.map mkB) (i : Int) ((j + 1 : Nat) : Int)) (fun k => ?_) ?_
            · simp only [laws_tame.j2]
              rw [if_pos trivial, if_pos (by omega), if_pos (by simp; omega), if_pos (by omega), if_pos (by rw [hsize]; omega), if_neg (by rw [hb]; intro h; exact e1 ((u8_eq _ 42 (by omega)).1 h)), if_neg (by rw [hb]; intro h; exact e2 ((u8_eq _ 62 (by omega)).1 h)), wrap_nat j (by omega)]
            · have : ((ts[i][j] != 42) && (ts[i][j] != 62)) = true := by simp [e1, e2]
              simp only [List.all_cons, this, Bool.true_and]
              exact ih (j + 1) (by omega) (by omega) r hr hi

theorem tame_loop (ts : List Bs) (hs : ts.length ≤ 2147483648) (hsz : ∀ t ∈ ts, t.length ≤ 2147483648) (d : Nat) : ∀ i : Nat, i ≤ ts.length → ts.length - i = d → Ev (fun k => laws_tame.l0 k (ts.map mkB) (i : Int)) (tameB (ts.drop i)) := by
  induction d with
  | zero =>
    intro i h1 h2
    refine Ev.step (f := fun _ => some true) (fun k => ?_) ?_
    · simp only [laws_tame.l0]
      rw [if_neg (by simp; omega)]
    · rw [List.drop_of_length_le (by omega)]
      exact Ev.now _
  | succ d ih =>
    intro i h1 h2
    have hlt : i < ts.length := by omega
    refine Ev.step (f := fun k => laws_tame.l1 k (ts.map mkB) (i : Int) ((0 : Nat) : Int)) (fun k => ?_) ?_
    · simp only [laws_tame.l0]
      rw [if_pos (by simp; omega)]
      rfl
    · rw [drop_get _ _ hlt]
      have := tame_inner ts i hlt (hsz _ (List.getElem_mem hlt)) ts[i].length 0 (by omega) (by omega) _ (ih (i + 1) (by omega) (by omega)) (by omega)
      rw [tameB_cons]
      exact this

theorem toks_each (p l : Bs) (n : Nat) (h : p.length + l.length ≤ n) : ∀ t ∈ toks p l, t.length ≤ n := by
  induction l generalizing p with
  | nil => intro t ht; simp [toks] at ht; rw [ht]; simpa using h
  | cons c l ih =>
    unfold toks
    simp at h
    split
    · intro t ht
      rcases List.mem_cons.1 ht with ht | ht
      · rw [ht]; omega
      · exact ih [] (by simp; omega) t ht
    · exact ih _ (by simp; omega)

theorem tame_ev (s : ByteArray) (hs : s.size ≤ 2147483647) : Ev (fun k => laws_tame.f k s) (tameB (toks [] (bl s))) := by
  have hl := bl_len s
  have hc := toks_length_le (bl s)
  unfold laws_tame.f
  refine Ev.bind (Tokens_ev s hs) ?_
  have := tame_loop (toks [] (bl s)) (by omega) (toks_each _ _ _ (by simp; omega)) (toks [] (bl s)).length 0 (by omega) (by omega)
  simpa using this

theorem valid_ev (s : ByteArray) (hs : s.size ≤ 2147483647) : Ev (fun k => laws_valid.f k s) (validB (bl s)) := by
  unfold laws_valid.f validB
  refine Ev.bind (clean_ev s hs) ?_
  cases cleanB (bl s) with
  | false => simp; exact Ev.now _
  | true =>
    simp only [if_true, Bool.true_and]
    refine Ev.bind (SValid_ev s hs) ?_
    cases sValidB (bl s) with
    | false => simp; exact Ev.now _
    | true =>
      simp only [if_true, Bool.true_and]
      refine Ev.bind (tame_ev s hs) ?_
      exact Ev.now _

theorem tokenAt_loop (s : ByteArray) (n : Nat) (hn : n < 256) (hs : s.size ≤ 2147483647) (d : Nat) : ∀ (i a t : Nat), a ≤ i → i ≤ (bl s).length → (bl s).length - i = d → t + (toks (((bl s).take i).drop a) ((bl s).drop i)).length ≤ 256 →
    Ev (fun k => server_tokenAt.l0 k s (n : Int) (t : Int) (a : Int) (i : Int)) (if t ≤ n then mkB ((toks (((bl s).take i).drop a) ((bl s).drop i)).getD (n - t) []) else mkB []) := by
  have hl := bl_len s
  induction d with
  | zero =>
    intro i a t h1 h2 h3 h4
    have hi : i = (bl s).length := by omega
    rw [List.drop_of_length_le (l := bl s) (by omega : (bl s).length ≤ i)]
    by_cases e : t = n
    · refine Ev.step (f := fun _ => some (s.extract a s.size)) (fun k => ?_) ?_
      · simp only [server_tokenAt.l0]
        rw [if_neg (by omega), if_pos (by omega), if_pos (by omega), if_pos (by omega)]
        simp
      · rw [if_pos (by omega), extract_mkB, ← hl, hi, toks]
        have : n - t = 0 := by omega
        rw [this]
        exact Ev.now _
    · refine Ev.step (f := fun _ => some (⟨#[]⟩ : ByteArray)) (fun k => ?_) ?_
      · simp only [server_tokenAt.l0]
        rw [if_neg (by omega), if_neg (by omega)]
      · have : (if t ≤ n then mkB ((toks (((bl s).take i).drop a) []).getD (n - t) []) else mkB []) = (⟨#[]⟩ : ByteArray) := by
          split
          · rw [toks]
            obtain ⟨q, hq⟩ : ∃ q, n - t = q + 1 := ⟨n - t - 1, by omega⟩
            rw [hq]
            rfl
          · rfl
        rw [this]
        exact Ev.now _
  | succ d ih =>
    intro i a t h1 h2 h3 h4
    have hlt : i < (bl s).length := by omega
    have hb := bt_get s i hlt
    rw [drop_get _ _ hlt] at h4 ⊢
    by_cases hc : (bl s)[i] = 46
    · rw [toks, if_pos hc] at h4 ⊢
      have h5 : 1 ≤ (toks [] ((bl s).drop (i + 1))).length := by
        have := toks_ne [] ((bl s).drop (i + 1))
        cases hh : toks [] ((bl s).drop (i + 1)) with
        | nil => exact absurd hh this
        | cons x y => simp
      simp only [List.length_cons] at h4
      by_cases e : t = n
      · refine Ev.step (f := fun _ => some (s.extract a i)) (fun k => ?_) ?_
        · simp only [server_tokenAt.l0]
          rw [if_pos (by omega), if_pos (by omega), if_pos (by rw [hb, hc]; rfl), if_pos (by omega), if_pos (by omega), if_pos (by omega), if_pos (by omega)]
          simp
        · rw [if_pos (by omega), extract_mkB]
          have : n - t = 0 := by omega
          rw [this]
          exact Ev.now _
      · refine Ev.step (f := fun k => server_tokenAt.l0 k s (n : Int) ((t + 1 : Nat) : Int) ((i + 1 : Nat) : Int) ((i + 1 : Nat) : Int)) (fun k => ?_) ?_
        · have ht : ((t : Int) + 1) % 256 = ((t + 1 : Nat) : Int) := by omega
          simp only [server_tokenAt.l0]
          rw [if_pos (by omega), if_pos (by omega), if_pos (by rw [hb, hc]; rfl), if_neg (by omega), wrap_nat i (by omega), ht]
        · have := ih (i + 1) (i + 1) (t + 1) (Nat.le_refl _) (by omega) (by omega) (by simp; omega)
          have h6 : ((bl s).take (i + 1)).drop (i + 1) = [] := by simp
          rw [h6] at this
          by_cases h7 : t ≤ n
          · rw [if_pos (by omega)] at this ⊢
            obtain ⟨q, hq⟩ : ∃ q, n - t = q + 1 := ⟨n - t - 1, by omega⟩
            have hq' : n - (t + 1) = q := by omega
            rw [hq'] at this
            rw [hq]
            exact this
          · rw [if_neg (by omega)] at this ⊢
            exact this
    · rw [toks, if_neg hc, ← take_drop_snoc _ _ _ h1 hlt] at h4 ⊢
      refine Ev.step (f := fun k => server_tokenAt.l0 k s (n : Int) (t : Int) (a : Int) ((i + 1 : Nat) : Int)) (fun k => ?_) ?_
      · simp only [server_tokenAt.l0]
        rw [if_pos (by omega), if_pos (by omega), if_neg (by rw [hb]; intro h; exact hc ((u8_eq _ 46 (by omega)).1 h)), wrap_nat i (by omega)]
      · exact ih (i + 1) a t (by omega) (by omega) (by omega) h4

theorem tokenAt_ev (s : ByteArray) (n : Nat) (h1 : 1 ≤ n) (hn : n < 256) (hs : s.size ≤ 2147483647) (hc : (toks [] (bl s)).length ≤ 255) :
    Ev (fun k => server_tokenAt.f k s (n : Int)) (mkB ((toks [] (bl s)).getD (n - 1) [])) := by
  have := tokenAt_loop s n hn hs (bl s).length 0 0 1 (by omega) (by omega) (by omega) (by simp; omega)
  rw [if_pos h1] at this
  simpa [server_tokenAt.f] using this

theorem implTokenAt_ev (s : ByteArray) (n : Nat) (h1 : 1 ≤ n) (hn : n < 256) (hs : s.size ≤ 2147483647) (hc : (toks [] (bl s)).length ≤ 255) :
    Ev (fun k => impl_TokenAt.f k s (n : Int)) (mkB ((toks [] (bl s)).getD (n - 1) [])) := by
  unfold impl_TokenAt.f server_TokenAt.f
  have e : ((n : Int)) % 256 = (n : Int) := by omega
  rw [e]
  exact Ev.bind (Ev.bind (tokenAt_ev s n h1 hn hs hc) (Ev.now _)) (Ev.now _)

theorem numTokens_loop (s : ByteArray) (hs : s.size ≤ 2147483647) (d : Nat) : ∀ (i c : Nat) (p : Bs), i ≤ (bl s).length → (bl s).length - i = d → c ≤ i →
    Ev (fun k => server_numTokens.l0 k s (c : Int) (i : Int)) (((c + (toks p ((bl s).drop i)).length : Nat) : Int)) := by
  have hl := bl_len s
  induction d with
  | zero =>
    intro i c p h1 h2 h3
    refine Ev.step (f := fun _ => some (((c + 1 : Nat) : Int))) (fun k => ?_) ?_
    · simp only [server_numTokens.l0]
      rw [if_neg (by omega), wrap_nat c (by omega)]
    · rw [List.drop_of_length_le (by omega), toks]
      exact Ev.now _
  | succ d ih =>
    intro i c p h1 h2 h3
    have hlt : i < (bl s).length := by omega
    have hb := bt_get s i hlt
    rw [drop_get _ _ hlt]
    by_cases hc : (bl s)[i] = 46
    · refine Ev.step (f := fun k => server_numTokens.l0 k s ((c + 1 : Nat) : Int) ((i + 1 : Nat) : Int)) (fun k => ?_) ?_
      · simp only [server_numTokens.l0]
        rw [if_pos (by omega), if_pos (by omega), if_pos (by rw [hb, hc]; rfl), wrap_nat i (by omega), wrap_nat c (by omega)]
      · have := ih (i + 1) (c + 1) [] (by omega) (by omega) (by omega)
        rw [toks, if_pos hc, List.length_cons, show c + ((toks [] ((bl s).drop (i + 1))).length + 1) = c + 1 + (toks [] ((bl s).drop (i + 1))).length by omega]
        exact this
    · refine Ev.step (f := fun k => server_numTokens.l0 k s (c : Int) ((i + 1 : Nat) : Int)) (fun k => ?_) ?_
      · simp only [server_numTokens.l0]
        rw [if_pos (by omega), if_pos (by omega), if_neg (by rw [hb]; intro h; exact hc ((u8_eq _ 46 (by omega)).1 h)), wrap_nat i (by omega)]
      · rw [toks, if_neg hc]
        exact ih (i + 1) c _ (by omega) (by omega) (by omega)

theorem numTokens_ev (s : ByteArray) (hs : s.size ≤ 2147483647) (h0 : bl s ≠ []) : Ev (fun k => impl_NumTokens.f k s) ((toks [] (bl s)).length : Int) := by
  have hl := bl_len s
  have h1 : 0 < (bl s).length := by
    cases h : bl s with
    | nil => exact absurd h h0
    | cons a b => simp
  unfold impl_NumTokens.f server_NumTokens.f server_numTokens.f
  simp only [if_neg (show ¬ (s.size : Int) = 0 by omega)]
  have := numTokens_loop s hs (bl s).length 0 0 [] (by omega) (by omega) (by omega)
  simp only [Nat.zero_add, List.drop_zero] at this
  exact Ev.bind (Ev.bind this (Ev.now _)) (Ev.now _)

theorem specNumTokens_ev (s : ByteArray) (hs : s.size ≤ 2147483647) (h0 : bl s ≠ []) : Ev (fun k => spec_NumTokens.f k s) ((toks [] (bl s)).length : Int) := by
  unfold spec_NumTokens.f
  simp only [if_neg (show ¬ s.toList = [] by rw [toList_bl]; exact h0)]
  refine Ev.bind (Tokens_ev s hs) ?_
  simp only [List.length_map]
  exact Ev.now _

-- SENT: The tokens of a subject, one by one, with points between, are the subject, and there is none behind the last one, at every text. No condition.
theorem join_snoc (ts : List Bs) (t : Bs) (h : ts ≠ []) : join (ts ++ [t]) = join ts ++ 46 :: t := by
  induction ts with
  | nil => exact absurd rfl h
  | cons u us ih =>
    cases us with
    | nil => simp [join]
    | cons v vs =>
      have := ih (by simp)
      rw [List.cons_append, join_cons u (v :: vs ++ [t]) (by simp), this, join_cons u (v :: vs) (by simp), List.append_assoc]
      rfl

theorem join_le (ts : List Bs) : (join ts).length ≤ (ts.map fun t => t.length + 1).sum := by
  induction ts with
  | nil => simp [join]
  | cons t ts ih =>
    by_cases h : ts = []
    · subst h; simp [join]
    · rw [join_cons _ _ h]; simp; omega

theorem sum_take (ts : List Bs) (i : Nat) : ((ts.take i).map fun t => t.length + 1).sum ≤ (ts.map fun t => t.length + 1).sum := by
  induction ts generalizing i with
  | nil => simp
  | cons t ts ih =>
    cases i with
    | zero => simp
    | succ i => have := ih i; simp only [List.take_succ_cons, List.map_cons, List.sum_cons]; omega

theorem back_loop (s : ByteArray) (hs : (bl s).length ≤ 400) (h0 : bl s ≠ []) (hc : (toks [] (bl s)).length ≤ 200) (d : Nat) : ∀ i : Nat, 1 ≤ i → i ≤ (toks [] (bl s)).length → (toks [] (bl s)).length - i = d →
    Ev (fun k => laws_FnTokensBack.l0 k s (mkB (join ((toks [] (bl s)).take i))) ((i + 1 : Nat) : Int)) true := by
  have hl := bl_len s
  induction d with
  | zero =>
    intro i h1 h2 h3
    have hi : i = (toks [] (bl s)).length := by omega
    refine Ev.step (g := fun k => laws_FnTokensBack.l0 k s (mkB (join ((toks [] (bl s)).take i))) ((i + 1 : Nat) : Int)) (fun k => by simp only [laws_FnTokensBack.l0]; rfl) ?_
    refine Ev.bind (numTokens_ev s (by omega) h0) ?_
    simp only [if_neg (show ¬ ((i + 1 : Nat) : Int) ≤ ((toks [] (bl s)).length : Int) by omega)]
    rw [hi, List.take_length, toList_mkB, toList_bl, join_toks]
    simp only [List.nil_append, if_true]
    refine Ev.bind (numTokens_ev s (by omega) h0) ?_
    rw [wrap_nat _ (by omega)]
    refine Ev.bind (implTokenAt_ev s ((toks [] (bl s)).length + 1) (by omega) (by omega) (by omega) (by omega)) ?_
    have : (toks [] (bl s)).getD ((toks [] (bl s)).length + 1 - 1) [] = [] := by simp
    rw [this, toList_mkB]
    exact Ev.now _
  | succ d ih =>
    intro i h1 h2 h3
    have hlt : i < (toks [] (bl s)).length := by omega
    refine Ev.step (g := fun k => laws_FnTokensBack.l0 k s (mkB (join ((toks [] (bl s)).take i))) ((i + 1 : Nat) : Int)) (fun k => by simp only [laws_FnTokensBack.l0]; rfl) ?_
    refine Ev.bind (numTokens_ev s (by omega) h0) ?_
    simp only [if_pos (show ((i + 1 : Nat) : Int) ≤ ((toks [] (bl s)).length : Int) by omega), if_pos (show ((i + 1 : Nat) : Int) < 256 by omega)]
    refine Ev.bind (implTokenAt_ev s (i + 1) (by omega) (by omega) (by omega) (by omega)) ?_
    have hg : (toks [] (bl s)).getD (i + 1 - 1) [] = (toks [] (bl s))[i] := by simp [hlt]
    rw [hg]
    have hj : join ((toks [] (bl s)).take (i + 1)) = join ((toks [] (bl s)).take i) ++ 46 :: (toks [] (bl s))[i] := by
      rw [List.take_succ_eq_append_getElem hlt, join_snoc]
      intro h
      have := congrArg List.length h
      rw [List.length_take, List.length_nil] at this
      omega
    have hb : mkB (join ((toks [] (bl s)).take i)) ++ ((⟨#[46]⟩ : ByteArray) ++ mkB (toks [] (bl s))[i]) = mkB (join ((toks [] (bl s)).take (i + 1))) := by
      rw [hj]
      apply bl_inj
      rw [bl_mkB]
      simp [bl, mkB]
    have hz : (join ((toks [] (bl s)).take (i + 1))).length ≤ 401 := by
      have a1 := join_le ((toks [] (bl s)).take (i + 1))
      have a2 := sum_take (toks [] (bl s)) (i + 1)
      have a3 := toks_len [] (bl s)
      rw [List.length_nil, Nat.zero_add] at a3
      exact Nat.le_trans (Nat.le_trans a1 a2) (by rw [a3]; omega)
    have hz2 := congrArg List.length hj
    simp only [List.length_append, List.length_cons] at hz2
    have hsz : ((⟨#[46]⟩ : ByteArray) ++ mkB (toks [] (bl s))[i]).size = 1 + (toks [] (bl s))[i].length := by
      rw [← bl_len]
      simp [bl, mkB]
      omega
    rw [hb]
    simp only [size_mkB, hsz]
    rw [wrap_nat _ (by omega)]
    simp only [if_pos (show 1 + (toks [] (bl s))[i].length ≤ 9223372036854775807 by omega), if_pos (show (join ((toks [] (bl s)).take i)).length + (1 + (toks [] (bl s))[i].length) ≤ 9223372036854775807 by omega)]
    exact ih (i + 1) (by omega) (by omega) (by omega)

theorem FnTokensBack : laws_FnTokensBack.Pure := by
  intro s hsz
  apply Ev.rounds
  unfold laws_FnTokensBack.f
  by_cases h : (s.size : Int) > 2147483647
  · simp only [if_pos h]
    exact Ev.now _
  · simp only [if_neg h]
    refine Ev.bind (valid_ev s (by omega)) ?_
    cases hv : validB (bl s) with
    | false =>
      simp only [Bool.false_eq_true, if_false]
      refine Ev.step (f := fun _ => some true) (fun k => ?_) (Ev.now _)
      simp [laws_FnTokensBack.j0]
    | true =>
      obtain ⟨p1, p2, p3, p4, p5⟩ := validB_parts hv
      have hc := validB_count hv
      have h0 : bl s ≠ [] := by
        intro h
        rw [h] at p3
        simp [toks, formedB] at p3
      simp only [if_true]
      refine Ev.bind (specNumTokens_ev s (by omega) h0) ?_
      rw [decide_eq_false (by omega)]
      refine Ev.step (g := fun k => laws_FnTokensBack.j0 k s false) (fun k => by simp only [laws_FnTokensBack.j0, Bool.false_eq_true, if_false]; rfl) ?_
      refine Ev.bind (implTokenAt_ev s 1 (by omega) (by omega) (by omega) (by omega)) ?_
      have h1 : 0 < (toks [] (bl s)).length := by
        have := toks_ne [] (bl s)
        cases hh : toks [] (bl s) with
        | nil => exact absurd hh this
        | cons a b => simp
      have := back_loop s p1 h0 hc ((toks [] (bl s)).length - 1) 1 (by omega) (by omega) rfl
      have e : join ((toks [] (bl s)).take 1) = (toks [] (bl s)).getD (1 - 1) [] := by
        cases hh : toks [] (bl s) with
        | nil => simp [hh] at h1
        | cons a b => simp [join]
      rw [e] at this
      exact this

end Go.Proofs.Ytaobajfdnidkfaa.Pure
