/- Whatever a subject matches is matched by another one just if their tokens say so: the program's answer is the reference's, at every two texts. No condition. -/
import Derived.Test.YtaobajfdnidkfaaPFnSubsetx
import Derived.Test.YtaobajfdnidkfaaRoad
namespace Go.Proofs.Ytaobajfdnidkfaa.Pure
open Go.RowKit Go.Proofs.Ytaobajfdnidkfaa.PFnSubset Go.Proofs.YtaobajfdnidkfaaW.PrintWords Go.Proofs.YtaobajfdnidkfaaW.PrintLast Go.Proofs.Ytaobajfdnidkfaa.Road
set_option linter.unusedVariables false
set_option linter.unusedSimpArgs false

theorem Tokens_loop (s : ByteArray) (hs : s.size ≤ 2147483647) (d : Nat) : ∀ (i a : Nat) (out : List ByteArray), a ≤ i → i ≤ (bl s).length → (bl s).length - i = d → out.length + d < 8796093022208 →
    Ev (fun k => spec_Tokens.l0 k s out (a : Int) (i : Int)) (out ++ (toks (((bl s).take i).drop a) ((bl s).drop i)).map mkB) := by
  have hl := bl_len s
  induction d with
  | zero =>
    intro i a out h1 h2 h3 h4
    have hi : i = (bl s).length := by omega
    refine Ev.step (f := fun _ => some (out ++ [s.extract a s.size])) (fun k => ?_) ?_
    · simp only [spec_Tokens.l0]
      rw [if_neg (by omega), if_pos (by omega), if_pos (by omega), if_pos (by omega)]
      simp
    · rw [hi, List.drop_length, List.take_length, extract_mkB, ← hl, List.take_length]
      exact Ev.now _
  | succ d ih =>
    intro i a out h1 h2 h3 h4
    have hlt : i < (bl s).length := by omega
    have hb := bt_get s i hlt
    rw [drop_get _ _ hlt]
    by_cases hc : (bl s)[i] = 46
    · refine Ev.step (f := fun k => spec_Tokens.l0 k s (out ++ [s.extract a i]) ((i + 1 : Nat) : Int) ((i + 1 : Nat) : Int)) (fun k => ?_) ?_
      · simp only [spec_Tokens.l0]
        rw [if_pos (by omega), if_pos (by omega), if_pos (by rw [hb, hc]; rfl), if_pos (by omega), if_pos (by omega), if_pos (by omega), if_pos (by omega), wrap_nat i (by omega)]
        simp
      · have := ih (i + 1) (i + 1) (out ++ [s.extract a i]) (Nat.le_refl _) (by omega) (by omega) (by simp; omega)
        rw [toks, if_pos hc]
        simpa [extract_mkB] using this
    · refine Ev.step (f := fun k => spec_Tokens.l0 k s out (a : Int) ((i + 1 : Nat) : Int)) (fun k => ?_) ?_
      · simp only [spec_Tokens.l0]
        rw [if_pos (by omega), if_pos (by omega), if_neg (by rw [hb]; intro h; exact hc ((u8_eq _ 46 (by omega)).1 h)), wrap_nat i (by omega)]
      · have := ih (i + 1) a out (by omega) (by omega) (by omega) (by omega)
        rw [toks, if_neg hc, ← take_drop_snoc _ _ _ h1 hlt]
        exact this

theorem Tokens_ev (s : ByteArray) (hs : s.size ≤ 2147483647) : Ev (fun k => spec_Tokens.f k s) ((toks [] (bl s)).map mkB) := by
  have := Tokens_loop s hs (bl s).length 0 0 [] (by omega) (by omega) (by omega) (by have := bl_len s; simp; omega)
  simpa [spec_Tokens.f] using this

theorem tok_get (ts : List Bs) (i : Nat) (h : i < ts.length) : (rdOf ByteArray.empty (ts.map mkB) (i : Int)).toList = ts[i] := by
  rw [rdOf_nat _ _ _ (by simpa using h)]
  simp [toList_mkB]

theorem Formed_loop (ts : List Bs) (hs : ts.length ≤ 2147483648) (d : Nat) : ∀ i : Nat, i ≤ ts.length → ts.length - i = d → Ev (fun k => spec_Formed.l0 k (ts.map mkB) (i : Int)) (formedB (ts.drop i)) := by
  induction d with
  | zero =>
    intro i h1 h2
    refine Ev.step (f := fun _ => some true) (fun k => ?_) ?_
    · simp only [spec_Formed.l0]
      rw [if_neg (by simp; omega)]
    · rw [List.drop_of_length_le (by omega)]
      exact Ev.now _
  | succ d ih =>
    intro i h1 h2
    have hlt : i < ts.length := by omega
    have hg := tok_get ts i hlt
    have hi := ih (i + 1) (by omega) (by omega)
    rw [drop_get _ _ hlt]
    by_cases e1 : ts[i] = []
    · refine Ev.step (f := fun _ => some false) (fun k => ?_) ?_
      · simp only [spec_Formed.l0]
        rw [if_pos (by simp; omega), if_pos (by omega), if_pos (by rw [hg]; exact e1)]
      · simp only [formedB, if_pos e1]
        exact Ev.now _
    · by_cases e2 : ts[i] = [62]
      · by_cases e3 : ts.drop (i + 1) = []
        · refine Ev.step (f := fun k => spec_Formed.l0 k (ts.map mkB) ((i + 1 : Nat) : Int)) (fun k => ?_) ?_
          · simp only [spec_Formed.l0]
            rw [if_pos (by simp; omega), if_pos (by omega), if_neg (by rw [hg]; exact e1), if_pos (by rw [hg]; exact e2), wrap_nat i (by omega), if_neg (by simp at e3; simp; omega)]
          · simp only [formedB, if_neg e1, if_pos e2, if_pos e3]
            exact hi
        · refine Ev.step (f := fun _ => some false) (fun k => ?_) ?_
          · simp only [spec_Formed.l0]
            rw [if_pos (by simp; omega), if_pos (by omega), if_neg (by rw [hg]; exact e1), if_pos (by rw [hg]; exact e2), wrap_nat i (by omega), if_pos (by simp at e3; simp; omega)]
          · simp only [formedB, if_neg e1, if_pos e2, if_neg e3]
            exact Ev.now _
      · refine Ev.step (f := fun k => spec_Formed.l0 k (ts.map mkB) ((i + 1 : Nat) : Int)) (fun k => ?_) ?_
        · simp only [spec_Formed.l0]
          rw [if_pos (by simp; omega), if_pos (by omega), if_neg (by rw [hg]; exact e1), if_neg (by rw [hg]; exact e2), wrap_nat i (by omega)]
        · simp only [formedB, if_neg e1, if_neg e2]
          exact hi

theorem Formed_ev (ts : List Bs) (hs : ts.length ≤ 2147483648) : Ev (fun k => spec_Formed.f k (ts.map mkB)) (formedB ts) := by
  have := Formed_loop ts hs ts.length 0 (by omega) (by omega)
  simpa [spec_Formed.f] using this

theorem Blank_of (c : UInt8) : spec_Blank.f (c.toNat : Int) = some (blankB c) := by
  have e32 : (c.toNat : Int) = 32 ↔ c = 32 := u8_eq c 32 (by omega)
  have e9 : (c.toNat : Int) = 9 ↔ c = 9 := u8_eq c 9 (by omega)
  have e10 : (c.toNat : Int) = 10 ↔ c = 10 := u8_eq c 10 (by omega)
  have e13 : (c.toNat : Int) = 13 ↔ c = 13 := u8_eq c 13 (by omega)
  have e12 : (c.toNat : Int) = 12 ↔ c = 12 := u8_eq c 12 (by omega)
  unfold spec_Blank.f blankB
  by_cases h1 : c = 32
  · rw [if_pos (e32.2 h1)]; simp [h1]
  · rw [if_neg (fun h => h1 (e32.1 h))]
    by_cases h2 : c = 9
    · rw [if_pos (e9.2 h2)]; simp [h2]
    · rw [if_neg (fun h => h2 (e9.1 h))]
      by_cases h3 : c = 10
      · rw [if_pos (e10.2 h3)]; simp [h3]
      · rw [if_neg (fun h => h3 (e10.1 h))]
        by_cases h4 : c = 13
        · rw [if_pos (e13.2 h4)]; simp [h4]
        · rw [if_neg (fun h => h4 (e13.1 h))]
          by_cases h5 : c = 12
          · have : ((c.toNat : Int) == 12) = true := beq_iff_eq.2 (e12.2 h5)
            rw [this]; simp [h5]
          · have : ((c.toNat : Int) == 12) = false := beq_eq_false_iff_ne.2 (fun h => h5 (e12.1 h))
            rw [this]; simp [h1, h2, h3, h4, h5]

theorem Spaced_loop (s : ByteArray) (hs : s.size ≤ 2147483647) (d : Nat) : ∀ i : Nat, i ≤ (bl s).length → (bl s).length - i = d → Ev (fun k => spec_Spaced.l0 k s (i : Int)) (spacedB ((bl s).drop i)) := by
  have hl := bl_len s
  induction d with
  | zero =>
    intro i h1 h2
    refine Ev.step (f := fun _ => some false) (fun k => ?_) ?_
    · simp only [spec_Spaced.l0]
      rw [if_neg (by omega)]
    · rw [List.drop_of_length_le (by omega)]
      exact Ev.now _
  | succ d ih =>
    intro i h1 h2
    have hlt : i < (bl s).length := by omega
    have hb := bt_get s i hlt
    rw [drop_get _ _ hlt]
    by_cases hc : blankB (bl s)[i] = true
    · refine Ev.step (f := fun _ => some true) (fun k => ?_) ?_
      · simp only [spec_Spaced.l0]
        rw [if_pos (by omega), if_pos (by omega), hb, Blank_of, hc]
        simp
      · rw [spacedB_cons, hc, Bool.true_or]
        exact Ev.now _
    · have hc' : blankB (bl s)[i] = false := by simpa using hc
      refine Ev.step (f := fun k => spec_Spaced.l0 k s ((i + 1 : Nat) : Int)) (fun k => ?_) ?_
      · simp only [spec_Spaced.l0]
        rw [if_pos (by omega), if_pos (by omega), hb, Blank_of, hc', wrap_nat i (by omega)]
        simp
      · rw [spacedB_cons, hc', Bool.false_or]
        exact ih (i + 1) (by omega) (by omega)

theorem Spaced_ev (s : ByteArray) (hs : s.size ≤ 2147483647) : Ev (fun k => spec_Spaced.f k s) (spacedB (bl s)) := by
  have := Spaced_loop s hs (bl s).length 0 (by omega) (by omega)
  simpa [spec_Spaced.f] using this

theorem SValid_ev (s : ByteArray) (hs : s.size ≤ 2147483647) : Ev (fun k => spec_Valid.f k s) (sValidB (bl s)) := by
  have hl := bl_len s
  have hc := toks_length_le (bl s)
  unfold spec_Valid.f sValidB
  refine Ev.bind (Tokens_ev s hs) (Ev.bind (Formed_ev _ (by omega)) ?_)
  cases formedB (toks [] (bl s)) with
  | true =>
    simp only [if_true]
    refine Ev.bind (Spaced_ev s hs) ?_
    simp only [Bool.true_and]
    exact Ev.now _
  | false =>
    simp
    exact Ev.now _

theorem clean_loop (s : ByteArray) (hs : s.size ≤ 2147483647) (d : Nat) : ∀ i : Nat, i ≤ (bl s).length → (bl s).length - i = d → Ev (fun k => laws_clean.l0 k s (i : Int)) (decide ((bl s).length ≤ 400) && ((bl s).drop i).all cleanC) := by
  have hl := bl_len s
  induction d with
  | zero =>
    intro i h1 h2
    refine Ev.step (f := fun k => laws_clean.j1 k s (i : Int) false) (fun k => ?_) (Ev.step (f := fun _ => some (decide ((s.size : Int) ≤ 400))) (fun k => ?_) ?_)
    · simp only [laws_clean.l0]
      rw [if_neg (by omega)]
    · simp [laws_clean.j1]
    · rw [List.drop_of_length_le (by omega)]
      have : decide ((s.size : Int) ≤ 400) = (decide ((bl s).length ≤ 400) && List.all ([] : Bs) cleanC) := by
        simp only [List.all_nil, Bool.and_true]
        exact decide_eq_decide.2 (by omega)
      rw [this]
      exact Ev.now _
  | succ d ih =>
    intro i h1 h2
    have hlt : i < (bl s).length := by omega
    have hb := bt_get s i hlt
    rw [drop_get _ _ hlt]
    by_cases h4 : i ≤ 400
    · refine Ev.step (f := fun k => laws_clean.j1 k s (i : Int) true) (fun k => ?_) ?_
      · simp only [laws_clean.l0]
        rw [if_pos (by omega), decide_eq_true (by omega)]
      · by_cases e1 : ((bl s)[i].toNat : Int) ≤ 32
        · refine Ev.step (f := fun _ => some false) (fun k => ?_) ?_
          · simp only [laws_clean.j1]
            rw [if_pos trivial, if_pos (by omega), if_pos (by omega), if_pos (by rw [hb]; exact e1)]
          · have : cleanC (bl s)[i] = false := cleanC_lo e1
            simp only [List.all_cons, this, Bool.false_and, Bool.and_false]
            exact Ev.now _
        · by_cases e2 : (bl s)[i] = 127
          · refine Ev.step (f := fun _ => some false) (fun k => ?_) ?_
            · simp only [laws_clean.j1]
              rw [if_pos trivial, if_pos (by omega), if_pos (by omega), if_neg (by rw [hb]; exact e1), if_pos (by rw [hb, e2]; rfl)]
            · have : cleanC (bl s)[i] = false := cleanC_del e2
              simp only [List.all_cons, this, Bool.false_and, Bool.and_false]
              exact Ev.now _
          · refine Ev.step (f := fun k => laws_clean.l0 k s ((i + 1 : Nat) : Int)) (fun k => ?_) ?_
            · simp only [laws_clean.j1]
              rw [if_pos trivial, if_pos (by omega), if_pos (by omega), if_neg (by rw [hb]; exact e1), if_neg (by rw [hb]; intro h; exact e2 ((u8_eq _ 127 (by omega)).1 h)), wrap_nat i (by omega)]
            · have : cleanC (bl s)[i] = true := cleanC_ok e1 e2
              simp only [List.all_cons, this, Bool.true_and]
              exact ih (i + 1) (by omega) (by omega)
    · refine Ev.step (f := fun k => laws_clean.j1 k s (i : Int) false) (fun k => ?_) (Ev.step (f := fun _ => some (decide ((s.size : Int) ≤ 400))) (fun k => ?_) ?_)
      · simp only [laws_clean.l0]
        rw [if_pos (by omega), decide_eq_false (by omega)]
      · simp [laws_clean.j1]
      · rw [decide_eq_false (by omega), decide_eq_false (p := (bl s).length ≤ 400) (by omega)]
        exact Ev.now _

theorem clean_ev (s : ByteArray) (hs : s.size ≤ 2147483647) : Ev (fun k => laws_clean.f k s) (cleanB (bl s)) := by
  have := clean_loop s hs (bl s).length 0 (by omega) (by omega)
  simpa [laws_clean.f, cleanB] using this

theorem tame_inner (ts : List Bs) (i : Nat) (hlt : i < ts.length) (hsz : ts[i].length ≤ 2147483648) (d : Nat) : ∀ j : Nat, j ≤ ts[i].length → ts[i].length - j = d → ∀ r : Bool,
    Ev (fun k => laws_tame.l0 k (ts.map mkB) ((i + 1 : Nat) : Int)) r →
    i < 2147483649 →
    Ev (fun k => laws_tame.l1 k (ts.map mkB) (i : Int) (j : Int)) ((decide (ts[i].length ≤ 1) || (ts[i].drop j).all fun c => c != 42 && c != 62) && r) := by
  have hrd : rdOf ByteArray.empty (ts.map mkB) (i : Int) = mkB ts[i] := by rw [rdOf_nat _ _ _ (by simpa using hlt)]; simp
  have hsize : (rdOf ByteArray.empty (ts.map mkB) (i : Int)).size = ts[i].length := by rw [hrd, size_mkB]
  induction d with
  | zero =>
    intro j h1 h2 r hr hi
    refine Ev.step (f := fun k => laws_tame.j2 k (ts.map mkB) (i : Int) (j : Int) false) (fun k => ?_) (Ev.step (f := fun k => laws_tame.l0 k (ts.map mkB) ((i + 1 : Nat) : Int)) (fun k => ?_) ?_)
    · simp only [laws_tame.l1]
      rw [if_pos (by omega), if_pos (by simp; omega), if_neg (by rw [hsize]; omega)]
    · simp only [laws_tame.j2]
      rw [if_neg (by simp), wrap_nat i (by omega)]
    · rw [List.drop_of_length_le (by omega)]
      simpa using hr
  | succ d ih =>
    intro j h1 h2 r hr hi
    have hj : j < ts[i].length := by omega
    by_cases h3 : ts[i].length ≤ 1
    · refine Ev.step (f := fun k => laws_tame.j2 k (ts.map mkB) (i : Int) (j : Int) false) (fun k => ?_) (Ev.step (f := fun k => laws_tame.l0 k (ts.map mkB) ((i + 1 : Nat) : Int)) (fun k => ?_) ?_)
      · simp only [laws_tame.l1]
        rw [if_pos (by omega), if_pos (by simp; omega), if_pos (by rw [hsize]; omega), decide_eq_false (by rw [hsize]; omega)]
      · simp only [laws_tame.j2]
        rw [if_neg (by simp), wrap_nat i (by omega)]
      · rw [decide_eq_true h3]
        simpa using hr
    · have hb : bt (rdOf ByteArray.empty (ts.map mkB) (i : Int)) (j : Int) = ((ts[i][j]).toNat : Int) := by
        rw [hrd, bt_get _ _ (by rw [bl_mkB]; exact hj)]
        simp only [bl_mkB]
      rw [drop_get _ _ hj]
      refine Ev.step (f := fun k => laws_tame.j2 k (ts.map mkB) (i : Int) (j : Int) true) (fun k => ?_) ?_
      · simp only [laws_tame.l1]
        rw [if_pos (by omega), if_pos (by simp; omega), if_pos (by rw [hsize]; omega), decide_eq_true (by rw [hsize]; omega)]
      · by_cases e1 : ts[i][j] = 42
        · refine Ev.step (f := fun _ => some false) (fun k => ?_) ?_
          · simp only [laws_tame.j2]
            rw [if_pos trivial, if_pos (by omega), if_pos (by simp; omega), if_pos (by omega), if_pos (by rw [hsize]; omega), if_pos (by rw [hb, e1]; rfl)]
          · rw [decide_eq_false h3]
            simp only [List.all_cons, e1]
            exact Ev.now _
        · by_cases e2 : ts[i][j] = 62
          · refine Ev.step (f := fun _ => some false) (fun k => ?_) ?_
            · simp only [laws_tame.j2]
              rw [if_pos trivial, if_pos (by omega), if_pos (by simp; omega), if_pos (by omega), if_pos (by rw [hsize]; omega), if_neg (by rw [hb]; intro h; exact e1 ((u8_eq _ 42 (by omega)).1 h)), if_pos (by rw [hb, e2]; rfl)]
            · rw [decide_eq_false h3]
              simp only [List.all_cons, e2]
              exact Ev.now _
          · refine Ev.step (f := fun k => laws_tame.l1 k (ts.map mkB) (i : Int) ((j + 1 : Nat) : Int)) (fun k => ?_) ?_
            · simp only [laws_tame.j2]
              rw [if_pos trivial, if_pos (by omega), if_pos (by simp; omega), if_pos (by omega), if_pos (by rw [hsize]; omega), if_neg (by rw [hb]; intro h; exact e1 ((u8_eq _ 42 (by omega)).1 h)), if_neg (by rw [hb]; intro h; exact e2 ((u8_eq _ 62 (by omega)).1 h)), wrap_nat j (by omega)]
            · have : ((ts[i][j] != 42) && (ts[i][j] != 62)) = true := by simp [e1, e2]
              simp only [List.all_cons, this, Bool.true_and]
              exact ih (j + 1) (by omega) (by omega) r hr hi

theorem tame_loop (ts : List Bs) (hs : ts.length ≤ 2147483648) (hsz : ∀ t ∈ ts, t.length ≤ 2147483648) (d : Nat) : ∀ i : Nat, i ≤ ts.length → ts.length - i = d → Ev (fun k => laws_tame.l0 k (ts.map mkB) (i : Int)) (tameB (ts.drop i)) := by
  induction d with
  | zero =>
    intro i h1 h2
    refine Ev.step (f := fun _ => some true) (fun k => ?_) ?_
    · simp only [laws_tame.l0]
      rw [if_neg (by simp; omega)]
    · rw [List.drop_of_length_le (by omega)]
      exact Ev.now _
  | succ d ih =>
    intro i h1 h2
    have hlt : i < ts.length := by omega
    refine Ev.step (f := fun k => laws_tame.l1 k (ts.map mkB) (i : Int) ((0 : Nat) : Int)) (fun k => ?_) ?_
    · simp only [laws_tame.l0]
      rw [if_pos (by simp; omega)]
      rfl
    · rw [drop_get _ _ hlt]
      have := tame_inner ts i hlt (hsz _ (List.getElem_mem hlt)) ts[i].length 0 (by omega) (by omega) _ (ih (i + 1) (by omega) (by omega)) (by omega)
      rw [tameB_cons]
      exact this

theorem toks_each (p l : Bs) (n : Nat) (h : p.length + l.length ≤ n) : ∀ t ∈ toks p l, t.length ≤ n := by
  induction l generalizing p with
  | nil => intro t ht; simp [toks] at ht; rw [ht]; simpa using h
  | cons c l ih =>
    unfold toks
    simp at h
    split
    · intro t ht
      rcases List.mem_cons.1 ht with ht | ht
      · rw [ht]; omega
      · exact ih [] (by simp; omega) t ht
    · exact ih _ (by simp; omega)

theorem tame_ev (s : ByteArray) (hs : s.size ≤ 2147483647) : Ev (fun k => laws_tame.f k s) (tameB (toks [] (bl s))) := by
  have hl := bl_len s
  have hc := toks_length_le (bl s)
  unfold laws_tame.f
  refine Ev.bind (Tokens_ev s hs) ?_
  have := tame_loop (toks [] (bl s)) (by omega) (toks_each _ _ _ (by simp; omega)) (toks [] (bl s)).length 0 (by omega) (by omega)
  simpa using this

theorem valid_ev (s : ByteArray) (hs : s.size ≤ 2147483647) : Ev (fun k => laws_valid.f k s) (validB (bl s)) := by
  unfold laws_valid.f validB
  refine Ev.bind (clean_ev s hs) ?_
  cases cleanB (bl s) with
  | false => simp; exact Ev.now _
  | true =>
    simp only [if_true, Bool.true_and]
    refine Ev.bind (SValid_ev s hs) ?_
    cases sValidB (bl s) with
    | false => simp; exact Ev.now _
    | true =>
      simp only [if_true, Bool.true_and]
      refine Ev.bind (tame_ev s hs) ?_
      exact Ev.now _

def subB : List Bs → List Bs → Bool
  | a, [] => a.isEmpty
  | [], _ :: _ => false
  | x :: a, y :: b => if y = [62] then true else if x = [62] then false else if y = [42] then subB a b else if x = y then subB a b else false

theorem compare_zero : ∀ a b : Bs, Lib.compareBytes a b = 0 ↔ a = b
  | [], [] => by simp [Lib.compareBytes]
  | [], _ :: _ => by simp [Lib.compareBytes]
  | _ :: _, [] => by simp [Lib.compareBytes]
  | x :: a, y :: b => by
    have ih := compare_zero a b
    simp only [Lib.compareBytes]
    by_cases h1 : x < y
    · rw [if_pos h1]
      constructor
      · intro h; exact absurd h (by decide)
      · intro h; injection h with h _; subst h; exact absurd h1 (by simp)
    · rw [if_neg h1]
      by_cases h2 : y < x
      · rw [if_pos h2]
        constructor
        · intro h; exact absurd h (by decide)
        · intro h; injection h with h _; subst h; exact absurd h2 (by simp)
      · rw [if_neg h2, ih]
        have : x = y := by
          apply UInt8.toNat_inj.1
          have a1 : ¬ x.toNat < y.toNat := fun h => h1 (UInt8.lt_iff_toNat_lt.2 h)
          have a2 : ¬ y.toNat < x.toNat := fun h => h2 (UInt8.lt_iff_toNat_lt.2 h)
          omega
        simp [this]

def goodT (t : Bs) : Prop := t ≠ [] ∧ tameT t = true

theorem goodT_star {t : Bs} (h : goodT t) {c : UInt8} {r : Bs} (ht : t = c :: r) (hc : c = 42 ∨ c = 62) : r = [] := by
  subst ht
  have := h.2
  unfold tameT at this
  cases r with
  | nil => rfl
  | cons a b => rcases hc with hc | hc <;> simp [hc] at this

theorem valid_good {l : Bs} (h : validB l = true) : ∀ t ∈ toks [] l, goodT t := by
  obtain ⟨_, _, p3, _, p5⟩ := validB_parts h
  intro t ht
  refine ⟨formedB_ne p3 t ht, ?_⟩
  unfold tameB at p5
  exact List.all_eq_true.1 p5 t ht

theorem good_cons {t : Bs} (h : goodT t) : ∃ c r, t = c :: r := by
  cases t with
  | nil => exact absurd rfl h.1
  | cons c r => exact ⟨c, r, rfl⟩

theorem rd_mkB (ts : List Bs) (i : Nat) (h : i < ts.length) : rdOf ByteArray.empty (ts.map mkB) (i : Int) = mkB ts[i] := by
  rw [rdOf_nat _ _ _ (by simpa using h)]
  simp

theorem bt0 (c : UInt8) (r : Bs) : bt (mkB (c :: r)) 0 = (c.toNat : Int) := by
  have := bt_get (mkB (c :: r)) 0 (by rw [bl_mkB]; simp)
  simp only [bl_mkB] at this
  exact this

theorem subsetTok_loop (a b : List Bs) (ha : ∀ t ∈ a, goodT t) (hb : ∀ t ∈ b, goodT t) (hl : b.length < 2147483649) (d : Nat) : ∀ i : Nat, i ≤ b.length → i ≤ a.length → b.length - i = d →
    Ev (fun k => server_isSubsetMatchTokenized.l0 k (a.map mkB) (b.map mkB) (b.map mkB) (b.length : Int) (i : Int)) (subB (a.drop i) (b.drop i)) := by
  induction d with
  | zero =>
    intro i h1 h2 h3
    refine Ev.step (f := fun _ => some ((((a.map mkB).length : Int)) == ((b.map mkB).length : Int))) (fun k => ?_) ?_
    · simp only [server_isSubsetMatchTokenized.l0]
      rw [if_neg (by omega)]
    · rw [List.drop_of_length_le (l := b) (by omega)]
      have e : (((a.map mkB).length : Int) == ((b.map mkB).length : Int)) = subB (a.drop i) [] := by
        simp only [List.length_map]
        cases hd : a.drop i with
        | nil =>
          have := congrArg List.length hd
          simp at this
          simp [subB]; omega
        | cons x y =>
          have := congrArg List.length hd
          simp at this
          simp [subB]; omega
      rw [e]
      exact Ev.now _
  | succ d ih =>
    intro i h1 h2 h3
    have hlt : i < b.length := by omega
    have gy := hb _ (List.getElem_mem hlt)
    rw [drop_get b i hlt]
    by_cases hA : i < a.length
    · have gx := ha _ (List.getElem_mem hA)
      have hi := ih (i + 1) (by omega) (by omega) (by omega)
      rw [drop_get a i hA]
      obtain ⟨cy, ry, ey⟩ := good_cons gy
      obtain ⟨cx, rx, ex⟩ := good_cons gx
      have rdy := rd_mkB b i hlt
      have rdx := rd_mkB a i hA
      rw [ey] at rdy
      rw [ex] at rdx
      have sy : ((mkB (cy :: ry)).size : Int) = ((ry.length + 1 : Nat) : Int) := by rw [size_mkB]; rfl
      have sx : ((mkB (cx :: rx)).size : Int) = ((rx.length + 1 : Nat) : Int) := by rw [size_mkB]; rfl
      have by0 := bt0 cy ry
      have bx0 := bt0 cx rx
      rw [ey, ex]
      -- the second one's token
      by_cases y62 : cy = 62
      · have hr := goodT_star gy ey (.inr y62)
        subst hr y62
        refine Ev.step (f := fun k => server_isSubsetMatchTokenized.j1 k (a.map mkB) (b.map mkB) (i : Int) (mkB [62]) (b.map mkB) (b.length : Int) (i : Int) true) (fun k => ?_) (Ev.step (f := fun _ => some true) (fun k => ?_) ?_)
        · simp only [server_isSubsetMatchTokenized.l0, rdy]
          rw [if_pos (by omega), if_pos (by omega), if_pos (by simp; omega), if_neg (by simp; omega), if_neg (by omega), if_pos (by omega), if_pos (by rw [by0]; rfl)]
          rfl
        · simp [server_isSubsetMatchTokenized.j1]
        · simp [subB]
          exact Ev.now _
      · have ny : ¬ (cy :: ry = [62]) := by intro h; injection h with h _; exact y62 h
        refine Ev.step (f := fun k => server_isSubsetMatchTokenized.j1 k (a.map mkB) (b.map mkB) (i : Int) (mkB (cy :: ry)) (b.map mkB) (b.length : Int) (i : Int) false) (fun k => ?_) ?_
        · simp only [server_isSubsetMatchTokenized.l0, rdy]
          rw [if_pos (by omega), if_pos (by omega), if_pos (by simp; omega), if_neg (by simp; omega), if_neg (by omega), if_pos (by omega), if_neg (by rw [by0]; intro h; exact y62 ((u8_eq _ 62 (by omega)).1 h))]
        · by_cases x62 : cx = 62
          · have hr := goodT_star gx ex (.inr x62)
            subst hr x62
            refine Ev.step (f := fun k => server_isSubsetMatchTokenized.j2 k (a.map mkB) (b.map mkB) (i : Int) (mkB (cy :: ry)) (mkB [62]) (b.map mkB) (b.length : Int) (i : Int) true) (fun k => ?_) (Ev.step (f := fun _ => some false) (fun k => ?_) ?_)
            · simp only [server_isSubsetMatchTokenized.j1, rdx]
              rw [if_neg (by simp), if_pos (by omega), if_pos (by simp; omega), if_neg (by omega), if_pos (by omega), if_pos (by rw [bx0]; rfl)]
              rfl
            · simp [server_isSubsetMatchTokenized.j2]
            · simp only [subB, if_neg ny, if_true]
              exact Ev.now _
          · have nx : ¬ (cx :: rx = [62]) := by intro h; injection h with h _; exact x62 h
            refine Ev.step (f := fun k => server_isSubsetMatchTokenized.j2 k (a.map mkB) (b.map mkB) (i : Int) (mkB (cy :: ry)) (mkB (cx :: rx)) (b.map mkB) (b.length : Int) (i : Int) false) (fun k => ?_) ?_
            · simp only [server_isSubsetMatchTokenized.j1, rdx]
              rw [if_neg (by simp), if_pos (by omega), if_pos (by simp; omega), if_neg (by omega), if_pos (by omega), if_neg (by rw [bx0]; intro h; exact x62 ((u8_eq _ 62 (by omega)).1 h))]
            · simp only [subB, if_neg ny, if_neg nx]
              by_cases x42 : cx = 42
              · have hr := goodT_star gx ex (.inl x42)
                subst hr x42
                refine Ev.step (f := fun k => server_isSubsetMatchTokenized.j3 k (a.map mkB) (b.map mkB) (i : Int) (mkB (cy :: ry)) (mkB [42]) (b.map mkB) (b.length : Int) (i : Int) true) (fun k => ?_) ?_
                · simp only [server_isSubsetMatchTokenized.j2]
                  rw [if_neg (by simp), if_pos (by omega), if_pos (by rw [bx0]; rfl)]
                  rfl
                · by_cases y42 : cy = 42
                  · have hr := goodT_star gy ey (.inl y42)
                    subst hr y42
                    refine Ev.step (f := fun k => server_isSubsetMatchTokenized.j4 k (a.map mkB) (b.map mkB) (i : Int) true (b.map mkB) (b.length : Int) (i : Int)) (fun k => ?_) (Ev.step (f := fun k => server_isSubsetMatchTokenized.l0 k (a.map mkB) (b.map mkB) (b.map mkB) (b.length : Int) ((i + 1 : Nat) : Int)) (fun k => ?_) ?_)
                    · simp only [server_isSubsetMatchTokenized.j3]
                      rw [if_pos trivial, if_pos (by omega), if_pos (by rw [by0]; rfl)]
                      rfl
                    · simp only [server_isSubsetMatchTokenized.j4]
                      rw [if_pos trivial, if_neg (by simp; omega), wrap_nat i (by omega)]
                    · rw [if_pos rfl]
                      exact hi
                  · refine Ev.step (f := fun k => server_isSubsetMatchTokenized.j4 k (a.map mkB) (b.map mkB) (i : Int) false (b.map mkB) (b.length : Int) (i : Int)) (fun k => ?_) (Ev.step (f := fun _ => some false) (fun k => ?_) ?_)
                    · simp only [server_isSubsetMatchTokenized.j3]
                      rw [if_pos trivial, if_pos (by omega), if_neg (by rw [by0]; intro h; exact y42 ((u8_eq _ 42 (by omega)).1 h))]
                    · simp [server_isSubsetMatchTokenized.j4]
                    · rw [if_neg (by intro h; injection h with h _; exact y42 h), if_neg (by intro h; injection h with h _; exact y42 h.symm)]
                      exact Ev.now _
              · refine Ev.step (f := fun k => server_isSubsetMatchTokenized.j3 k (a.map mkB) (b.map mkB) (i : Int) (mkB (cy :: ry)) (mkB (cx :: rx)) (b.map mkB) (b.length : Int) (i : Int) false) (fun k => ?_) ?_
                · simp only [server_isSubsetMatchTokenized.j2]
                  rw [if_neg (by simp), if_pos (by omega), if_neg (by rw [bx0]; intro h; exact x42 ((u8_eq _ 42 (by omega)).1 h))]
                · by_cases y42 : cy = 42
                  · have hr := goodT_star gy ey (.inl y42)
                    subst hr y42
                    refine Ev.step (f := fun k => server_isSubsetMatchTokenized.l0 k (a.map mkB) (b.map mkB) (b.map mkB) (b.length : Int) ((i + 1 : Nat) : Int)) (fun k => ?_) ?_
                    · simp only [server_isSubsetMatchTokenized.j3]
                      rw [if_neg (by simp), if_pos (by omega), if_pos (by rw [by0]; rfl), wrap_nat i (by omega)]
                    · rw [if_pos rfl]
                      exact hi
                  · have hcmp := compare_zero (cx :: rx) (cy :: ry)
                    have hf : strings_Compare.f (mkB (cx :: rx)) (mkB (cy :: ry)) = some (Lib.compareBytes (cx :: rx) (cy :: ry)) := by simp [strings_Compare.f, mkB]
                    rw [if_neg (by intro h; injection h with h _; exact y42 h)]
                    by_cases hxy : cx :: rx = cy :: ry
                    · refine Ev.step (f := fun k => server_isSubsetMatchTokenized.l0 k (a.map mkB) (b.map mkB) (b.map mkB) (b.length : Int) ((i + 1 : Nat) : Int)) (fun k => ?_) ?_
                      · simp only [server_isSubsetMatchTokenized.j3]
                        rw [if_neg (by simp), if_pos (by omega), if_neg (by rw [by0]; intro h; exact y42 ((u8_eq _ 42 (by omega)).1 h)), hf]
                        simp only [Option.bind_some]
                        rw [if_pos (hcmp.2 hxy), wrap_nat i (by omega)]
                      · rw [if_pos hxy]
                        exact hi
                    · refine Ev.step (f := fun _ => some false) (fun k => ?_) ?_
                      · simp only [server_isSubsetMatchTokenized.j3]
                        rw [if_neg (by simp), if_pos (by omega), if_neg (by rw [by0]; intro h; exact y42 ((u8_eq _ 42 (by omega)).1 h)), hf]
                        simp only [Option.bind_some]
                        rw [if_neg (fun h => hxy (hcmp.1 h))]
                      · rw [if_neg hxy]
                        exact Ev.now _
    · have hz : a.drop i = [] := List.drop_of_length_le (by omega)
      rw [hz]
      refine Ev.step (f := fun _ => some false) (fun k => ?_) ?_
      · simp only [server_isSubsetMatchTokenized.l0]
        rw [if_pos (by omega), if_pos (by omega), if_pos (by simp; omega), if_pos (by simp; omega)]
      · simp only [subB]
        exact Ev.now _

theorem subsetTok_ev (a b : List Bs) (ha : ∀ t ∈ a, goodT t) (hb : ∀ t ∈ b, goodT t) (hl : b.length < 2147483649) : Ev (fun k => server_isSubsetMatchTokenized.f k (a.map mkB) (b.map mkB)) (subB a b) := by
  have := subsetTok_loop a b ha hb hl b.length 0 (by omega) (by omega) (by omega)
  simpa [server_isSubsetMatchTokenized.f] using this

theorem subsetMatch_ev (s t : ByteArray) (hs : validB (bl s) = true) (ht : validB (bl t) = true) (h1 : s.size ≤ 2147483647) (h2 : t.size ≤ 2147483647) :
    Ev (fun k => server_subjectIsSubsetMatch.f k s t) (subB (toks [] (bl s)) (toks [] (bl t))) := by
  unfold server_subjectIsSubsetMatch.f server_isSubsetMatch.f
  simp only [if_pos h1, if_pos h2]
  have := validB_count ht
  exact subsetTok_ev _ _ (valid_good hs) (valid_good ht) (by omega)

-- SENT: Whatever a subject matches is matched by another one just if their tokens say so: the program's answer is the reference's, at every two texts. No condition.
theorem subset_loop (a b : List Bs) (hl : b.length < 2147483649) (d : Nat) : ∀ i : Nat, i ≤ b.length → i ≤ a.length → b.length - i = d →
    Ev (fun k => spec_subset.l0 k (a.map mkB) (b.map mkB) (i : Int)) (subB (a.drop i) (b.drop i)) := by
  induction d with
  | zero =>
    intro i h1 h2 h3
    refine Ev.step (f := fun _ => some ((((a.map mkB).length : Int)) == ((b.map mkB).length : Int))) (fun k => ?_) ?_
    · simp only [spec_subset.l0]
      rw [if_neg (by simp; omega)]
    · rw [List.drop_of_length_le (l := b) (by omega)]
      have e : (((a.map mkB).length : Int) == ((b.map mkB).length : Int)) = subB (a.drop i) [] := by
        simp only [List.length_map]
        cases hd : a.drop i with
        | nil =>
          have := congrArg List.length hd
          simp at this
          simp [subB]; omega
        | cons x y =>
          have := congrArg List.length hd
          simp at this
          simp [subB]; omega
      rw [e]
      exact Ev.now _
  | succ d ih =>
    intro i h1 h2 h3
    have hlt : i < b.length := by omega
    rw [drop_get b i hlt]
    by_cases hA : i < a.length
    · have hi := ih (i + 1) (by omega) (by omega) (by omega)
      rw [drop_get a i hA]
      have ry := tok_get b i hlt
      have rx := tok_get a i hA
      by_cases y62 : b[i] = [62]
      · refine Ev.step (f := fun _ => some true) (fun k => ?_) ?_
        · simp only [spec_subset.l0, rx, ry]
          rw [if_pos (by simp; omega), if_neg (by simp; omega), if_pos (by omega), if_pos y62]
        · simp only [subB, if_pos y62]
          exact Ev.now _
      · by_cases x62 : a[i] = [62]
        · refine Ev.step (f := fun _ => some false) (fun k => ?_) ?_
          · simp only [spec_subset.l0, rx, ry]
            rw [if_pos (by simp; omega), if_neg (by simp; omega), if_pos (by omega), if_neg y62, if_pos (by simp; omega), if_pos x62]
          · simp only [subB, if_neg y62, if_pos x62]
            exact Ev.now _
        · by_cases y42 : b[i] = [42]
          · refine Ev.step (f := fun k => spec_subset.l0 k (a.map mkB) (b.map mkB) ((i + 1 : Nat) : Int)) (fun k => ?_) ?_
            · simp only [spec_subset.l0, rx, ry]
              rw [if_pos (by simp; omega), if_neg (by simp; omega), if_pos (by omega), if_neg y62, if_pos (by simp; omega), if_neg x62, if_pos y42, wrap_nat i (by omega)]
            · simp only [subB, if_neg y62, if_neg x62, if_pos y42]
              exact hi
          · by_cases hxy : a[i] = b[i]
            · refine Ev.step (f := fun k => spec_subset.l0 k (a.map mkB) (b.map mkB) ((i + 1 : Nat) : Int)) (fun k => ?_) ?_
              · simp only [spec_subset.l0, rx, ry]
                rw [if_pos (by simp; omega), if_neg (by simp; omega), if_pos (by omega), if_neg y62, if_pos (by simp; omega), if_neg x62, if_neg y42, if_pos hxy, wrap_nat i (by omega)]
              · simp only [subB, if_neg y62, if_neg x62, if_neg y42, if_pos hxy]
                exact hi
            · refine Ev.step (f := fun _ => some false) (fun k => ?_) ?_
              · simp only [spec_subset.l0, rx, ry]
                rw [if_pos (by simp; omega), if_neg (by simp; omega), if_pos (by omega), if_neg y62, if_pos (by simp; omega), if_neg x62, if_neg y42, if_neg hxy]
              · simp only [subB, if_neg y62, if_neg x62, if_neg y42, if_neg hxy]
                exact Ev.now _
    · have hz : a.drop i = [] := List.drop_of_length_le (by omega)
      rw [hz]
      refine Ev.step (f := fun _ => some false) (fun k => ?_) ?_
      · simp only [spec_subset.l0]
        rw [if_pos (by simp; omega), if_pos (by simp; omega)]
      · simp only [subB]
        exact Ev.now _

theorem specSubset_ev (s t : ByteArray) (h1 : s.size ≤ 2147483647) (h2 : t.size ≤ 2147483647) : Ev (fun k => spec_Subset.f k s t) (subB (toks [] (bl s)) (toks [] (bl t))) := by
  unfold spec_Subset.f spec_subset.f
  have hc := toks_length_le (bl t)
  have hl := bl_len t
  refine Ev.bind (Tokens_ev s h1) (Ev.bind (Tokens_ev t h2) (Ev.bind ?_ (Ev.now _)))
  have := subset_loop (toks [] (bl s)) (toks [] (bl t)) (by omega) (toks [] (bl t)).length 0 (by omega) (by omega) (by omega)
  simpa using this

theorem FnSubset : laws_FnSubset.Pure := by
  intro s t hs ht
  apply Ev.rounds
  have hout : Ev (fun k => laws_FnSubset.j0 k s t true) true := Ev.step (f := fun _ => some true) (fun k => by simp [laws_FnSubset.j0]) (Ev.now _)
  unfold laws_FnSubset.f
  by_cases h1 : (s.size : Int) > 2147483647
  · simp only [if_pos h1]
    exact hout
  · by_cases h2 : (t.size : Int) > 2147483647
    · simp only [if_neg h1, decide_eq_true h2]
      exact hout
    · simp only [if_neg h1, decide_eq_false h2]
      refine Ev.step (g := fun k => laws_FnSubset.j0 k s t false) (fun k => by simp only [laws_FnSubset.j0, Bool.false_eq_true, if_false]; rfl) ?_
      refine Ev.bind (valid_ev s (by omega)) ?_
      cases hv : validB (bl s) with
      | false => simp; exact Ev.now _
      | true =>
        simp only [if_true]
        refine Ev.bind (valid_ev t (by omega)) ?_
        cases hw : validB (bl t) with
        | false => simp; exact Ev.now _
        | true =>
          simp only [if_true]
          unfold impl_Subset.f server_SubjectIsSubset.f
          refine Ev.bind (Ev.bind (Ev.bind (subsetMatch_ev s t hv hw (by omega) (by omega)) (Ev.now _)) (Ev.now _)) (Ev.bind (specSubset_ev s t (by omega) (by omega)) ?_)
          simp
          exact Ev.now _

end Go.Proofs.Ytaobajfdnidkfaa.Pure
