/- Two subjects collide just if their tokens say so: the program's answer is the reference's, at every two texts. No condition. -/
import Derived.Test.YtaobajfdnidkfaaPFnCollidex
import Derived.Test.YtaobajfdnidkfaaRoad
namespace Go.Proofs.Ytaobajfdnidkfaa.Pure
open Go.RowKit Go.Proofs.Ytaobajfdnidkfaa.PFnCollide Go.Proofs.YtaobajfdnidkfaaW.PrintWords Go.Proofs.YtaobajfdnidkfaaW.PrintLast Go.Proofs.Ytaobajfdnidkfaa.Road
set_option linter.unusedVariables false
set_option linter.unusedSimpArgs false

theorem Tokens_loop (s : ByteArray) (hs : s.size ≤ 2147483647) (d : Nat) : ∀ (i a : Nat) (out : List ByteArray), a ≤ i → i ≤ (bl s).length → (bl s).length - i = d → out.length + d < 8796093022208 →
    Ev (fun k => spec_Tokens.l0 k s out (a : Int) (i : Int)) (out ++ (toks (((bl s).take i).drop a) ((bl s).drop i)).map mkB) := by
  have hl := bl_len s
  induction d with
  | zero =>
    intro i a out h1 h2 h3 h4
    have hi : i = (bl s).length := by omega
    refine Ev.step (f := fun _ => some (out ++ [s.extract a s.size])) (fun k => ?_) ?_
    · simp only [spec_Tokens.l0]
      rw [if_neg (by omega), if_pos (by omega), if_pos (by omega), if_pos (by omega)]
      simp
    · rw [hi, List.drop_length, List.take_length, extract_mkB, ← hl, List.take_length]
      exact Ev.now _
  | succ d ih =>
    intro i a out h1 h2 h3 h4
    have hlt : i < (bl s).length := by omega
    have hb := bt_get s i hlt
    rw [drop_get _ _ hlt]
    by_cases hc : (bl s)[i] = 46
    · refine Ev.step (f := fun k => spec_Tokens.l0 k s (out ++ [s.extract a i]) ((i + 1 : Nat) : Int) ((i + 1 : Nat) : Int)) (fun k => ?_) ?_
      · simp only [spec_Tokens.l0]
        rw [if_pos (by omega), if_pos (by omega), if_pos (by rw [hb, hc]; rfl), if_pos (by omega), if_pos (by omega), if_pos (by omega), if_pos (by omega), wrap_nat i (by omega)]
        simp
      · have := ih (i + 1) (i + 1) (out ++ [s.extract a i]) (Nat.le_refl _) (by omega) (by omega) (by simp; omega)
        rw [toks, if_pos hc]
        simpa [extract_mkB] using this
    · refine Ev.step (f := fun k => spec_Tokens.l0 k s out (a : Int) ((i + 1 : Nat) : Int)) (fun k => ?_) ?_
      · simp only [spec_Tokens.l0]
        rw [if_pos (by omega), if_pos (by omega), if_neg (by rw [hb]; intro h; exact hc ((u8_eq _ 46 (by omega)).1 h)), wrap_nat i (by omega)]
      · have := ih (i + 1) a out (by omega) (by omega) (by omega) (by omega)
        rw [toks, if_neg hc, ← take_drop_snoc _ _ _ h1 hlt]
        exact this

theorem Tokens_ev (s : ByteArray) (hs : s.size ≤ 2147483647) : Ev (fun k => spec_Tokens.f k s) ((toks [] (bl s)).map mkB) := by
  have := Tokens_loop s hs (bl s).length 0 0 [] (by omega) (by omega) (by omega) (by have := bl_len s; simp; omega)
  simpa [spec_Tokens.f] using this

theorem tok_get (ts : List Bs) (i : Nat) (h : i < ts.length) : (rdOf ByteArray.empty (ts.map mkB) (i : Int)).toList = ts[i] := by
  rw [rdOf_nat _ _ _ (by simpa using h)]
  simp [toList_mkB]

theorem Formed_loop (ts : List Bs) (hs : ts.length ≤ 2147483648) (d : Nat) : ∀ i : Nat, i ≤ ts.length → ts.length - i = d → Ev (fun k => spec_Formed.l0 k (ts.map mkB) (i : Int)) (formedB (ts.drop i)) := by
  induction d with
  | zero =>
    intro i h1 h2
    refine Ev.step (f := fun _ => some true) (fun k => ?_) ?_
    · simp only [spec_Formed.l0]
      rw [if_neg (by simp; omega)]
    · rw [List.drop_of_length_le (by omega)]
      exact Ev.now _
  | succ d ih =>
    intro i h1 h2
    have hlt : i < ts.length := by omega
    have hg := tok_get ts i hlt
    have hi := ih (i + 1) (by omega) (by omega)
    rw [drop_get _ _ hlt]
    by_cases e1 : ts[i] = []
    · refine Ev.step (f := fun _ => some false) (fun k => ?_) ?_
      · simp only [spec_Formed.l0]
        rw [if_pos (by simp; omega), if_pos (by omega), if_pos (by rw [hg]; exact e1)]
      · simp only [formedB, if_pos e1]
        exact Ev.now _
    · by_cases e2 : ts[i] = [62]
      · by_cases e3 : ts.drop (i + 1) = []
        · refine Ev.step (f := fun k => spec_Formed.l0 k (ts.map mkB) ((i + 1 : Nat) : Int)) (fun k => ?_) ?_
          · simp only [spec_Formed.l0]
            rw [if_pos (by simp; omega), if_pos (by omega), if_neg (by rw [hg]; exact e1), if_pos (by rw [hg]; exact e2), wrap_nat i (by omega), if_neg (by simp at e3; simp; omega)]
          · simp only [formedB, if_neg e1, if_pos e2, if_pos e3]
            exact hi
        · refine Ev.step (f := fun _ => some false) (fun k => ?_) ?_
          · simp only [spec_Formed.l0]
            rw [if_pos (by simp; omega), if_pos (by omega), if_neg (by rw [hg]; exact e1), if_pos (by rw [hg]; exact e2), wrap_nat i (by omega), if_pos (by simp at e3; simp; omega)]
          · simp only [formedB, if_neg e1, if_pos e2, if_neg e3]
            exact Ev.now _
      · refine Ev.step (f := fun k => spec_Formed.l0 k (ts.map mkB) ((i + 1 : Nat) : Int)) (fun k => ?_) ?_
        · simp only [spec_Formed.l0]
          rw [if_pos (by simp; omega), if_pos (by omega), if_neg (by rw [hg]; exact e1), if_neg (by rw [hg]; exact e2), wrap_nat i (by omega)]
        · simp only [formedB, if_neg e1, if_neg e2]
          exact hi

theorem Formed_ev (ts : List Bs) (hs : ts.length ≤ 2147483648) : Ev (fun k => spec_Formed.f k (ts.map mkB)) (formedB ts) := by
  have := Formed_loop ts hs ts.length 0 (by omega) (by omega)
  simpa [spec_Formed.f] using this

theorem Blank_of (c : UInt8) : spec_Blank.f (c.toNat : Int) = some (blankB c) := by
  have e32 : (c.toNat : Int) = 32 ↔ c = 32 := u8_eq c 32 (by omega)
  have e9 : (c.toNat : Int) = 9 ↔ c = 9 := u8_eq c 9 (by omega)
  have e10 : (c.toNat : Int) = 10 ↔ c = 10 := u8_eq c 10 (by omega)
  have e13 : (c.toNat : Int) = 13 ↔ c = 13 := u8_eq c 13 (by omega)
  have e12 : (c.toNat : Int) = 12 ↔ c = 12 := u8_eq c 12 (by omega)
  unfold spec_Blank.f blankB
  by_cases h1 : c = 32
  · rw [if_pos (e32.2 h1)]; simp [h1]
  · rw [if_neg (fun h => h1 (e32.1 h))]
    by_cases h2 : c = 9
    · rw [if_pos (e9.2 h2)]; simp [h2]
    · rw [if_neg (fun h => h2 (e9.1 h))]
      by_cases h3 : c = 10
      · rw [if_pos (e10.2 h3)]; simp [h3]
      · rw [if_neg (fun h => h3 (e10.1 h))]
        by_cases h4 : c = 13
        · rw [if_pos (e13.2 h4)]; simp [h4]
        · rw [if_neg (fun h => h4 (e13.1 h))]
          by_cases h5 : c = 12
          · have : ((c.toNat : Int) == 12) = true := beq_iff_eq.2 (e12.2 h5)
            rw [this]; simp [h5]
          · have : ((c.toNat : Int) == 12) = false := beq_eq_false_iff_ne.2 (fun h => h5 (e12.1 h))
            rw [this]; simp [h1, h2, h3, h4, h5]

theorem Spaced_loop (s : ByteArray) (hs : s.size ≤ 2147483647) (d : Nat) : ∀ i : Nat, i ≤ (bl s).length → (bl s).length - i = d → Ev (fun k => spec_Spaced.l0 k s (i : Int)) (spacedB ((bl s).drop i)) := by
  have hl := bl_len s
  induction d with
  | zero =>
    intro i h1 h2
    refine Ev.step (f := fun _ => some false) (fun k => ?_) ?_
    · simp only [spec_Spaced.l0]
      rw [if_neg (by omega)]
    · rw [List.drop_of_length_le (by omega)]
      exact Ev.now _
  | succ d ih =>
    intro i h1 h2
    have hlt : i < (bl s).length := by omega
    have hb := bt_get s i hlt
    rw [drop_get _ _ hlt]
    by_cases hc : blankB (bl s)[i] = true
    · refine Ev.step (f := fun _ => some true) (fun k => ?_) ?_
      · simp only [spec_Spaced.l0]
        rw [if_pos (by omega), if_pos (by omega), hb, Blank_of, hc]
        simp
      · rw [spacedB_cons, hc, Bool.true_or]
        exact Ev.now _
    · have hc' : blankB (bl s)[i] = false := by simpa using hc
      refine Ev.step (f := fun k => spec_Spaced.l0 k s ((i + 1 : Nat) : Int)) (fun k => ?_) ?_
      · simp only [spec_Spaced.l0]
        rw [if_pos (by omega), if_pos (by omega), hb, Blank_of, hc', wrap_nat i (by omega)]
        simp
      · rw [spacedB_cons, hc', Bool.false_or]
        exact ih (i + 1) (by omega) (by omega)

theorem Spaced_ev (s : ByteArray) (hs : s.size ≤ 2147483647) : Ev (fun k => spec_Spaced.f k s) (spacedB (bl s)) := by
  have := Spaced_loop s hs (bl s).length 0 (by omega) (by omega)
  simpa [spec_Spaced.f] using this

theorem SValid_ev (s : ByteArray) (hs : s.size ≤ 2147483647) : Ev (fun k => spec_Valid.f k s) (sValidB (bl s)) := by
  have hl := bl_len s
  have hc := toks_length_le (bl s)
  unfold spec_Valid.f sValidB
  refine Ev.bind (Tokens_ev s hs) (Ev.bind (Formed_ev _ (by omega)) ?_)
  cases formedB (toks [] (bl s)) with
  | true =>
    simp only [if_true]
    refine Ev.bind (Spaced_ev s hs) ?_
    simp only [Bool.true_and]
    exact Ev.now _
  | false =>
    simp
    exact Ev.now _

theorem clean_loop (s : ByteArray) (hs : s.size ≤ 2147483647) (d : Nat) : ∀ i : Nat, i ≤ (bl s).length → (bl s).length - i = d → Ev (fun k => laws_clean.l0 k s (i : Int)) (decide ((bl s).length ≤ 400) && ((bl s).drop i).all cleanC) := by
  have hl := bl_len s
  induction d with
  | zero =>
    intro i h1 h2
    refine Ev.step (f := fun k => laws_clean.j1 k s (i : Int) false) (fun k => ?_) (Ev.step (f := fun _ => some (decide ((s.size : Int) ≤ 400))) (fun k => ?_) ?_)
    · simp only [laws_clean.l0]
      rw [if_neg (by omega)]
    · simp [laws_clean.j1]
    · rw [List.drop_of_length_le (by omega)]
      have : decide ((s.size : Int) ≤ 400) = (decide ((bl s).length ≤ 400) && List.all ([] : Bs) cleanC) := by
        simp only [List.all_nil, Bool.and_true]
        exact decide_eq_decide.2 (by omega)
      rw [this]
      exact Ev.now _
  | succ d ih =>
    intro i h1 h2
    have hlt : i < (bl s).length := by omega
    have hb := bt_get s i hlt
    rw [drop_get _ _ hlt]
    by_cases h4 : i ≤ 400
    · refine Ev.step (f := fun k => laws_clean.j1 k s (i : Int) true) (fun k => ?_) ?_
      · simp only [laws_clean.l0]
        rw [if_pos (by omega), decide_eq_true (by omega)]
      · by_cases e1 : ((bl s)[i].toNat : Int) ≤ 32
        · refine Ev.step (f := fun _ => some false) (fun k => ?_) ?_
          · simp only [laws_clean.j1]
            rw [if_pos trivial, if_pos (by omega), if_pos (by omega), if_pos (by rw [hb]; exact e1)]
          · have : cleanC (bl s)[i] = false := cleanC_lo e1
            simp only [List.all_cons, this, Bool.false_and, Bool.and_false]
            exact Ev.now _
        · by_cases e2 : (bl s)[i] = 127
          · refine Ev.step (f := fun _ => some false) (fun k => ?_) ?_
            · simp only [laws_clean.j1]
              rw [if_pos trivial, if_pos (by omega), if_pos (by omega), if_neg (by rw [hb]; exact e1), if_pos (by rw [hb, e2]; rfl)]
            · have : cleanC (bl s)[i] = false := cleanC_del e2
              simp only [List.all_cons, this, Bool.false_and, Bool.and_false]
              exact Ev.now _
          · refine Ev.step (f := fun k => laws_clean.l0 k s ((i + 1 : Nat) : Int)) (fun k => ?_) ?_
            · simp only [laws_clean.j1]
              rw [if_pos trivial, if_pos (by omega), if_pos (by omega), if_neg (by rw [hb]; exact e1), if_neg (by rw [hb]; intro h; exact e2 ((u8_eq _ 127 (by omega)).1 h)), wrap_nat i (by omega)]
            · have : cleanC (bl s)[i] = true := cleanC_ok e1 e2
              simp only [List.all_cons, this, Bool.true_and]
              exact ih (i + 1) (by omega) (by omega)
    · refine Ev.step (f := fun k => laws_clean.j1 k s (i : Int) false) (fun k => ?_) (Ev.step (f := fun _ => some (decide ((s.size : Int) ≤ 400))) (fun k => ?_) ?_)
      · simp only [laws_clean.l0]
        rw [if_pos (by omega), decide_eq_false (by omega)]
      · simp [laws_clean.j1]
      · rw [decide_eq_false (by omega), decide_eq_false (p := (bl s).length ≤ 400) (by omega)]
        exact Ev.now _

theorem clean_ev (s : ByteArray) (hs : s.size ≤ 2147483647) : Ev (fun k => laws_clean.f k s) (cleanB (bl s)) := by
  have := clean_loop s hs (bl s).length 0 (by omega) (by omega)
  simpa [laws_clean.f, cleanB] using this

theorem tame_inner (ts : List Bs) (i : Nat) (hlt : i < ts.length) (hsz : ts[i].length ≤ 2147483648) (d : Nat) : ∀ j : Nat, j ≤ ts[i].length → ts[i].length - j = d → ∀ r : Bool,
    Ev (fun k => laws_tame.l0 k (ts.map mkB) ((i + 1 : Nat) : Int)) r →
    i < 2147483649 →
    Ev (fun k => laws_tame.l1 k (ts.map mkB) (i : Int) (j : Int)) ((decide (ts[i].length ≤ 1) || (ts[i].drop j).all fun c => c != 42 && c != 62) && r) := by
  have hrd : rdOf ByteArray.empty (ts.map mkB) (i : Int) = mkB ts[i] := by rw [rdOf_nat _ _ _ (by simpa using hlt)]; simp
  have hsize : (rdOf ByteArray.empty (ts.map mkB) (i : Int)).size = ts[i].length := by rw [hrd, size_mkB]
  induction d with
  | zero =>
    intro j h1 h2 r hr hi
    refine Ev.step (f := fun k => laws_tame.j2 k (ts.map mkB) (i : Int) (j : Int) false) (fun k => ?_) (Ev.step (f := fun k => laws_tame.l0 k (ts.map mkB) ((i + 1 : Nat) : Int)) (fun k => ?_) ?_)
    · simp only [laws_tame.l1]
      rw [if_pos (by omega), if_pos (by simp; omega), if_neg (by rw [hsize]; omega)]
    · simp only [laws_tame.j2]
      rw [if_neg (by simp), wrap_nat i (by omega)]
    · rw [List.drop_of_length_le (by omega)]
      simpa using hr
  | succ d ih =>
    intro j h1 h2 r hr hi
    have hj : j < ts[i].length := by omega
    by_cases h3 : ts[i].length ≤ 1
    · refine Ev.step (f := fun k => laws_tame.j2 k (ts.map mkB) (i : Int) (j : Int) false) (fun k => ?_) (Ev.step (f := fun k => laws_tame.l0 k (ts.map mkB) ((i + 1 : Nat) : Int)) (fun k => ?_) ?_)
      · simp only [laws_tame.l1]
        rw [if_pos (by omega), if_pos (by simp; omega), if_pos (by rw [hsize]; omega), decide_eq_false (by rw [hsize]; omega)]
      · simp only [laws_tame.j2]
        rw [if_neg (by simp), wrap_nat i (by omega)]
      · rw [decide_eq_true h3]
        simpa using hr
    · have hb : bt (rdOf ByteArray.empty (ts.map mkB) (i : Int)) (j : Int) = ((ts[i][j]).toNat : Int) := by
        rw [hrd, bt_get _ _ (by rw [bl_mkB]; exact hj)]
        simp only [bl_mkB]
      rw [drop_get _ _ hj]
      refine Ev.step (f := fun k => laws_tame.j2 k (ts.map mkB) (i : Int) (j : Int) true) (fun k => ?_) ?_
      · simp only [laws_tame.l1]
        rw [if_pos (by omega), if_pos (by simp; omega), if_pos (by rw [hsize]; omega), decide_eq_true (by rw [hsize]; omega)]
      · by_cases e1 : ts[i][j] = 42
        · refine Ev.step (f := fun _ => some false) (fun k => ?_) ?_
          · simp only [laws_tame.j2]
            rw [if_pos trivial, if_pos (by omega), if_pos (by simp; omega), if_pos (by omega), if_pos (by rw [hsize]; omega), if_pos (by rw [hb, e1]; rfl)]
          · rw [decide_eq_false h3]
            simp only [List.all_cons, e1]
            exact Ev.now _
        · by_cases e2 : ts[i][j] = 62
          · refine Ev.step (f := fun _ => some false) (fun k => ?_) ?_
            · simp only [laws_tame.j2]
              rw [if_pos trivial, if_pos (by omega), if_pos (by simp; omega), if_pos (by omega), if_pos (by rw [hsize]; omega), if_neg (by rw [hb]; intro h; exact e1 ((u8_eq _ 42 (by omega)).1 h)), if_pos (by rw [hb, e2]; rfl)]
            · rw [decide_eq_false h3]
              simp only [List.all_cons, e2]
              exact Ev.now _
          · refine Ev.step (f := fun k => laws_tame.l1 k (ts.map mkB) (i : Int) ((j + 1 : Nat) : Int)) (fun k => ?_) ?_
            · simp only [laws_tame.j2]
              rw [if_pos trivial, if_pos (by omega), if_pos (by simp; omega), if_pos (by omega), if_pos (by rw [hsize]; omega), if_neg (by rw [hb]; intro h; exact e1 ((u8_eq _ 42 (by omega)).1 h)), if_neg (by rw [hb]; intro h; exact e2 ((u8_eq _ 62 (by omega)).1 h)), wrap_nat j (by omega)]
            · have : ((ts[i][j] != 42) && (ts[i][j] != 62)) = true := by simp [e1, e2]
              simp only [List.all_cons, this, Bool.true_and]
              exact ih (j + 1) (by omega) (by omega) r hr hi

theorem tame_loop (ts : List Bs) (hs : ts.length ≤ 2147483648) (hsz : ∀ t ∈ ts, t.length ≤ 2147483648) (d : Nat) : ∀ i : Nat, i ≤ ts.length → ts.length - i = d → Ev (fun k => laws_tame.l0 k (ts.map mkB) (i : Int)) (tameB (ts.drop i)) := by
  induction d with
  | zero =>
    intro i h1 h2
    refine Ev.step (f := fun _ => some true) (fun k => ?_) ?_
    · simp only [laws_tame.l0]
      rw [if_neg (by simp; omega)]
    · rw [List.drop_of_length_le (by omega)]
      exact Ev.now _
  | succ d ih =>
    intro i h1 h2
    have hlt : i < ts.length := by omega
    refine Ev.step (f := fun k => laws_tame.l1 k (ts.map mkB) (i : Int) ((0 : Nat) : Int)) (fun k => ?_) ?_
    · simp only [laws_tame.l0]
      rw [if_pos (by simp; omega)]
      rfl
    · rw [drop_get _ _ hlt]
      have := tame_inner ts i hlt (hsz _ (List.getElem_mem hlt)) ts[i].length 0 (by omega) (by omega) _ (ih (i + 1) (by omega) (by omega)) (by omega)
      rw [tameB_cons]
      exact this

theorem toks_each (p l : Bs) (n : Nat) (h : p.length + l.length ≤ n) : ∀ t ∈ toks p l, t.length ≤ n := by
  induction l generalizing p with
  | nil => intro t ht; simp [toks] at ht; rw [ht]; simpa using h
  | cons c l ih =>
    unfold toks
    simp at h
    split
    · intro t ht
      rcases List.mem_cons.1 ht with ht | ht
      · rw [ht]; omega
      · exact ih [] (by simp; omega) t ht
    · exact ih _ (by simp; omega)

theorem tame_ev (s : ByteArray) (hs : s.size ≤ 2147483647) : Ev (fun k => laws_tame.f k s) (tameB (toks [] (bl s))) := by
  have hl := bl_len s
  have hc := toks_length_le (bl s)
  unfold laws_tame.f
  refine Ev.bind (Tokens_ev s hs) ?_
  have := tame_loop (toks [] (bl s)) (by omega) (toks_each _ _ _ (by simp; omega)) (toks [] (bl s)).length 0 (by omega) (by omega)
  simpa using this

theorem valid_ev (s : ByteArray) (hs : s.size ≤ 2147483647) : Ev (fun k => laws_valid.f k s) (validB (bl s)) := by
  unfold laws_valid.f validB
  refine Ev.bind (clean_ev s hs) ?_
  cases cleanB (bl s) with
  | false => simp; exact Ev.now _
  | true =>
    simp only [if_true, Bool.true_and]
    refine Ev.bind (SValid_ev s hs) ?_
    cases sValidB (bl s) with
    | false => simp; exact Ev.now _
    | true =>
      simp only [if_true, Bool.true_and]
      refine Ev.bind (tame_ev s hs) ?_
      exact Ev.now _

def subB : List Bs → List Bs → Bool
  | a, [] => a.isEmpty
  | [], _ :: _ => false
  | x :: a, y :: b => if y = [62] then true else if x = [62] then false else if y = [42] then subB a b else if x = y then subB a b else false

theorem compare_zero : ∀ a b : Bs, Lib.compareBytes a b = 0 ↔ a = b
  | [], [] => by simp [Lib.compareBytes]
  | [], _ :: _ => by simp [Lib.compareBytes]
  | _ :: _, [] => by simp [Lib.compareBytes]
  | x :: a, y :: b => by
    have ih := compare_zero a b
    simp only [Lib.compareBytes]
    by_cases h1 : x < y
    · rw [if_pos h1]
      constructor
      · intro h; exact absurd h (by decide)
      · intro h; injection h with h _; subst h; exact absurd h1 (by simp)
    · rw [if_neg h1]
      by_cases h2 : y < x
      · rw [if_pos h2]
        constructor
        · intro h; exact absurd h (by decide)
        · intro h; injection h with h _; subst h; exact absurd h2 (by simp)
      · rw [if_neg h2, ih]
        have : x = y := by
          apply UInt8.toNat_inj.1
          have a1 : ¬ x.toNat < y.toNat := fun h => h1 (UInt8.lt_iff_toNat_lt.2 h)
          have a2 : ¬ y.toNat < x.toNat := fun h => h2 (UInt8.lt_iff_toNat_lt.2 h)
          omega
        simp [this]

def goodT (t : Bs) : Prop := t ≠ [] ∧ tameT t = true

theorem goodT_star {t : Bs} (h : goodT t) {c : UInt8} {r : Bs} (ht : t = c :: r) (hc : c = 42 ∨ c = 62) : r = [] := by
  subst ht
  have := h.2
  unfold tameT at this
  cases r with
  | nil => rfl
  | cons a b => rcases hc with hc | hc <;> simp [hc] at this

theorem valid_good {l : Bs} (h : validB l = true) : ∀ t ∈ toks [] l, goodT t := by
  obtain ⟨_, _, p3, _, p5⟩ := validB_parts h
  intro t ht
  refine ⟨formedB_ne p3 t ht, ?_⟩
  unfold tameB at p5
  exact List.all_eq_true.1 p5 t ht

theorem good_cons {t : Bs} (h : goodT t) : ∃ c r, t = c :: r := by
  cases t with
  | nil => exact absurd rfl h.1
  | cons c r => exact ⟨c, r, rfl⟩

theorem rd_mkB (ts : List Bs) (i : Nat) (h : i < ts.length) : rdOf ByteArray.empty (ts.map mkB) (i : Int) = mkB ts[i] := by
  rw [rdOf_nat _ _ _ (by simpa using h)]
  simp

theorem bt0 (c : UInt8) (r : Bs) : bt (mkB (c :: r)) 0 = (c.toNat : Int) := by
  have := bt_get (mkB (c :: r)) 0 (by rw [bl_mkB]; simp)
  simp only [bl_mkB] at this
  exact this

theorem subsetTok_loop (a b : List Bs) (ha : ∀ t ∈ a, goodT t) (hb : ∀ t ∈ b, goodT t) (hl : b.length < 2147483649) (d : Nat) : ∀ i : Nat, i ≤ b.length → i ≤ a.length → b.length - i = d →
    Ev (fun k => server_isSubsetMatchTokenized.l0 k (a.map mkB) (b.map mkB) (b.map mkB) (b.length : Int) (i : Int)) (subB (a.drop i) (b.drop i)) := by
  induction d with
  | zero =>
    intro i h1 h2 h3
    refine Ev.step (f := fun _ => some ((((a.map mkB).length : Int)) == ((b.map mkB).length : Int))) (fun k => ?_) ?_
    · simp only [server_isSubsetMatchTokenized.l0]
      rw [if_neg (by omega)]
    · rw [List.drop_of_length_le (l := b) (by omega)]
      have e : (((a.map mkB).length : Int) == ((b.map mkB).length : Int)) = subB (a.drop i) [] := by
        simp only [List.length_map]
        cases hd : a.drop i with
        | nil =>
          have := congrArg List.length hd
          simp at this
          simp [subB]; omega
        | cons x y =>
          have := congrArg List.length hd
          simp at this
          simp [subB]; omega
      rw [e]
      exact Ev.now _
  | succ d ih =>
    intro i h1 h2 h3
    have hlt : i < b.length := by omega
    have gy := hb _ (List.getElem_mem hlt)
    rw [drop_get b i hlt]
    by_cases hA : i < a.length
    · have gx := ha _ (List.getElem_mem hA)
      have hi := ih (i + 1) (by omega) (by omega) (by omega)
      rw [drop_get a i hA]
      obtain ⟨cy, ry, ey⟩ := good_cons gy
      obtain ⟨cx, rx, ex⟩ := good_cons gx
      have rdy := rd_mkB b i hlt
      have rdx := rd_mkB a i hA
      rw [ey] at rdy
      rw [ex] at rdx
      have sy : ((mkB (cy :: ry)).size : Int) = ((ry.length + 1 : Nat) : Int) := by rw [size_mkB]; rfl
      have sx : ((mkB (cx :: rx)).size : Int) = ((rx.length + 1 : Nat) : Int) := by rw [size_mkB]; rfl
      have by0 := bt0 cy ry
      have bx0 := bt0 cx rx
      rw [ey, ex]
      -- the second one's token
      by_cases y62 : cy = 62
      · have hr := goodT_star gy ey (.inr y62)
        subst hr y62
        refine Ev.step (f := fun k => server_isSubsetMatchTokenized.j1 k (a.map mkB) (b.map mkB) (i : Int) (mkB [62]) (b.map mkB) (b.length : Int) (i : Int) true) (fun k => ?_) (Ev.step (f := fun _ => some true) (fun k => ?_) ?_)
        · simp only [server_isSubsetMatchTokenized.l0, rdy]
          rw [if_pos (by omega), if_pos (by omega), if_pos (by simp; omega), if_neg (by simp; omega), if_neg (by omega), if_pos (by omega), if_pos (by rw [by0]; rfl)]
          rfl
        · simp [server_isSubsetMatchTokenized.j1]
        · simp [subB]
          exact Ev.now _
      · have ny : ¬ (cy :: ry = [62]) := by intro h; injection h with h _; exact y62 h
        refine Ev.step (f := fun k => server_isSubsetMatchTokenized.j1 k (a.map mkB) (b.map mkB) (i : Int) (mkB (cy :: ry)) (b.map mkB) (b.length : Int) (i : Int) false) (fun k => ?_) ?_
        · simp only [server_isSubsetMatchTokenized.l0, rdy]
          rw [if_pos (by omega), if_pos (by omega), if_pos (by simp; omega), if_neg (by simp; omega), if_neg (by omega), if_pos (by omega), if_neg (by rw [by0]; intro h; exact y62 ((u8_eq _ 62 (by omega)).1 h))]
        · by_cases x62 : cx = 62
          · have hr := goodT_star gx ex (.inr x62)
            subst hr x62
            refine Ev.step (f := fun k => server_isSubsetMatchTokenized.j2 k (a.map mkB) (b.map mkB) (i : Int) (mkB (cy :: ry)) (mkB [62]) (b.map mkB) (b.length : Int) (i : Int) true) (fun k => ?_) (Ev.step (f := fun _ => some false) (fun k => ?_) ?_)
            · simp only [server_isSubsetMatchTokenized.j1, rdx]
              rw [if_neg (by simp), if_pos (by omega), if_pos (by simp; omega), if_neg (by omega), if_pos (by omega), if_pos (by rw [bx0]; rfl)]
              rfl
            · simp [server_isSubsetMatchTokenized.j2]
            · simp only [subB, if_neg ny, if_true]
              exact Ev.now _
          · have nx : ¬ (cx :: rx = [62]) := by intro h; injection h with h _; exact x62 h
            refine Ev.step (f := fun k => server_isSubsetMatchTokenized.j2 k (a.map mkB) (b.map mkB) (i : Int) (mkB (cy :: ry)) (mkB (cx :: rx)) (b.map mkB) (b.length : Int) (i : Int) false) (fun k => ?_) ?_
            · simp only [server_isSubsetMatchTokenized.j1, rdx]
              rw [if_neg (by simp), if_pos (by omega), if_pos (by simp; omega), if_neg (by omega), if_pos (by omega), if_neg (by rw [bx0]; intro h; exact x62 ((u8_eq _ 62 (by omega)).1 h))]
            · simp only [subB, if_neg ny, if_neg nx]
              by_cases x42 : cx = 42
              · have hr := goodT_star gx ex (.inl x42)
                subst hr x42
                refine Ev.step (f := fun k => server_isSubsetMatchTokenized.j3 k (a.map mkB) (b.map mkB) (i : Int) (mkB (cy :: ry)) (mkB [42]) (b.map mkB) (b.length : Int) (i : Int) true) (fun k => ?_) ?_
                · simp only [server_isSubsetMatchTokenized.j2]
                  rw [if_neg (by simp), if_pos (by omega), if_pos (by rw [bx0]; rfl)]
                  rfl
                · by_cases y42 : cy = 42
                  · have hr := goodT_star gy ey (.inl y42)
                    subst hr y42
                    refine Ev.step (f := fun k => server_isSubsetMatchTokenized.j4 k (a.map mkB) (b.map mkB) (i : Int) true (b.map mkB) (b.length : Int) (i : Int)) (fun k => ?_) (Ev.step (f := fun k => server_isSubsetMatchTokenized.l0 k (a.map mkB) (b.map mkB) (b.map mkB) (b.length : Int) ((i + 1 : Nat) : Int)) (fun k => ?_) ?_)
                    · simp only [server_isSubsetMatchTokenized.j3]
                      rw [if_pos trivial, if_pos (by omega), if_pos (by rw [by0]; rfl)]
                      rfl
                    · simp only [server_isSubsetMatchTokenized.j4]
                      rw [if_pos trivial, if_neg (by simp; omega), wrap_nat i (by omega)]
                    · rw [if_pos rfl]
                      exact hi
                  · refine Ev.step (f := fun k => server_isSubsetMatchTokenized.j4 k (a.map mkB) (b.map mkB) (i : Int) false (b.map mkB) (b.length : Int) (i : Int)) (fun k => ?_) (Ev.step (f := fun _ => some false) (fun k => ?_) ?_)
                    · simp only [server_isSubsetMatchTokenized.j3]
                      rw [if_pos trivial, if_pos (by omega), if_neg (by rw [by0]; intro h; exact y42 ((u8_eq _ 42 (by omega)).1 h))]
                    · simp [server_isSubsetMatchTokenized.j4]
                    · rw [if_neg (by intro h; injection h with h _; exact y42 h), if_neg (by intro h; injection h with h _; exact y42 h.symm)]
                      exact Ev.now _
              · refine Ev.step (f := fun k => server_isSubsetMatchTokenized.j3 k (a.map mkB) (b.map mkB) (i : Int) (mkB (cy :: ry)) (mkB (cx :: rx)) (b.map mkB) (b.length : Int) (i : Int) false) (fun k => ?_) ?_
                · simp only [server_isSubsetMatchTokenized.j2]
                  rw [if_neg (by simp), if_pos (by omega), if_neg (by rw [bx0]; intro h; exact x42 ((u8_eq _ 42 (by omega)).1 h))]
                · by_cases y42 : cy = 42
                  · have hr := goodT_star gy ey (.inl y42)
                    subst hr y42
                    refine Ev.step (f := fun k => server_isSubsetMatchTokenized.l0 k (a.map mkB) (b.map mkB) (b.map mkB) (b.length : Int) ((i + 1 : Nat) : Int)) (fun k => ?_) ?_
                    · simp only [server_isSubsetMatchTokenized.j3]
                      rw [if_neg (by simp), if_pos (by omega), if_pos (by rw [by0]; rfl), wrap_nat i (by omega)]
                    · rw [if_pos rfl]
                      exact hi
                  · have hcmp := compare_zero (cx :: rx) (cy :: ry)
                    have hf : strings_Compare.f (mkB (cx :: rx)) (mkB (cy :: ry)) = some (Lib.compareBytes (cx :: rx) (cy :: ry)) := by simp [strings_Compare.f, mkB]
                    rw [if_neg (by intro h; injection h with h _; exact y42 h)]
                    by_cases hxy : cx :: rx = cy :: ry
                    · refine Ev.step (f := fun k => server_isSubsetMatchTokenized.l0 k (a.map mkB) (b.map mkB) (b.map mkB) (b.length : Int) ((i + 1 : Nat) : Int)) (fun k => ?_) ?_
                      · simp only [server_isSubsetMatchTokenized.j3]
                        rw [if_neg (by simp), if_pos (by omega), if_neg (by rw [by0]; intro h; exact y42 ((u8_eq _ 42 (by omega)).1 h)), hf]
                        simp only [Option.bind_some]
                        rw [if_pos (hcmp.2 hxy), wrap_nat i (by omega)]
                      · rw [if_pos hxy]
                        exact hi
                    · refine Ev.step (f := fun _ => some false) (fun k => ?_) ?_
                      · simp only [server_isSubsetMatchTokenized.j3]
                        rw [if_neg (by simp), if_pos (by omega), if_neg (by rw [by0]; intro h; exact y42 ((u8_eq _ 42 (by omega)).1 h)), hf]
                        simp only [Option.bind_some]
                        rw [if_neg (fun h => hxy (hcmp.1 h))]
                      · rw [if_neg hxy]
                        exact Ev.now _
    · have hz : a.drop i = [] := List.drop_of_length_le (by omega)
      rw [hz]
      refine Ev.step (f := fun _ => some false) (fun k => ?_) ?_
      · simp only [server_isSubsetMatchTokenized.l0]
        rw [if_pos (by omega), if_pos (by omega), if_pos (by simp; omega), if_pos (by simp; omega)]
      · simp only [subB]
        exact Ev.now _

theorem subsetTok_ev (a b : List Bs) (ha : ∀ t ∈ a, goodT t) (hb : ∀ t ∈ b, goodT t) (hl : b.length < 2147483649) : Ev (fun k => server_isSubsetMatchTokenized.f k (a.map mkB) (b.map mkB)) (subB a b) := by
  have := subsetTok_loop a b ha hb hl b.length 0 (by omega) (by omega) (by omega)
  simpa [server_isSubsetMatchTokenized.f] using this

-- SENT: Two subjects collide just if their tokens say so: the program's answer is the reference's, at every two texts. No condition.
def hasT (c : UInt8) (T : List Bs) : Bool := T.any (fun t => t == [c])
def canT (t u : Bs) : Bool := t == [42] || u == [42] || t == [62] || u == [62] || t == u
def zipCan : List Bs → List Bs → Bool
  | [], _ => true
  | _ :: _, [] => true
  | t :: ts, u :: us => canT t u && zipCan ts us
def collB : List Bs → List Bs → Bool
  | [], [] => true
  | [], _ :: _ => false
  | _ :: _, [] => false
  | x :: a, y :: b => if x = [62] ∨ y = [62] then true else if x = [42] ∨ y = [42] ∨ x = y then collB a b else false

theorem collB_symm : ∀ a b, collB a b = collB b a
  | [], [] => rfl
  | [], _ :: _ => rfl
  | _ :: _, [] => rfl
  | x :: a, y :: b => by
    simp only [collB]
    rw [collB_symm a b]
    by_cases h1 : x = [62] <;> by_cases h2 : y = [62] <;> by_cases h3 : x = [42] <;> by_cases h4 : y = [42] <;> by_cases h5 : x = y <;> simp_all [eq_comm]
theorem collB_self : ∀ a, collB a a = true
  | [] => rfl
  | x :: a => by simp [collB, collB_self a]
theorem collB_lit : ∀ a b, hasT 42 a = false → hasT 62 a = false → hasT 42 b = false → hasT 62 b = false → collB a b = true → a = b
  | [], [], _, _, _, _, _ => rfl
  | [], _ :: _, _, _, _, _, h => by simp [collB] at h
  | _ :: _, [], _, _, _, _, h => by simp [collB] at h
  | x :: a, y :: b, h1, h2, h3, h4, h => by
    simp [hasT] at h1 h2 h3 h4
    simp only [collB, h1.1, h2.1, h3.1, h4.1, or_self, false_or, if_false] at h
    split at h
    · rename_i hxy
      rw [hxy, collB_lit a b (by simpa [hasT] using h1.2) (by simpa [hasT] using h2.2) (by simpa [hasT] using h3.2) (by simpa [hasT] using h4.2) h]
    · simp at h
theorem collB_sub : ∀ a b, hasT 42 a = false → hasT 62 a = false → collB a b = subB a b
  | [], [], _, _ => rfl
  | [], _ :: _, _, _ => rfl
  | _ :: _, [], _, _ => rfl
  | x :: a, y :: b, h1, h2 => by
    simp [hasT] at h1 h2
    have ih := collB_sub a b (by simpa [hasT] using h1.2) (by simpa [hasT] using h2.2)
    simp only [collB, subB, h1.1, h2.1, false_or, if_false, ih]
    by_cases y62 : y = [62]
    · simp [y62]
    · by_cases y42 : y = [42]
      · simp [y42]
      · simp [y62, y42]
theorem collB_short : ∀ a b, a.length < b.length → hasT 62 a = false → formedB b = true → collB a b = false
  | [], _ :: _, _, _, _ => rfl
  | [], [], h, _, _ => by simp at h
  | _ :: _, [], h, _, _ => by simp at h
  | x :: a, y :: b, h, h2, hf => by
    simp [hasT] at h2
    simp only [formedB] at hf
    split at hf
    · simp at hf
    · split at hf
      · split at hf
        · rename_i hb
          subst hb
          simp at h
        · simp at hf
      · rename_i y62
        have ih := collB_short a b (by simpa using h) (by simpa [hasT] using h2.2) hf
        simp only [collB, h2.1, y62, or_self, if_false, ih]
        split <;> rfl
theorem collB_zip : ∀ a b, formedB a = true → formedB b = true → (a.length < b.length → hasT 62 a = true) → (b.length < a.length → hasT 62 b = true) → collB a b = zipCan a b
  | [], [], _, _, _, _ => rfl
  | [], _ :: _, _, _, h, _ => by simp [hasT] at h
  | _ :: _, [], _, _, _, h => by simp [hasT] at h
  | x :: a, y :: b, ha, hb, h1, h2 => by
    simp only [formedB] at ha hb
    split at ha
    · simp at ha
    split at hb
    · simp at hb
    by_cases x62 : x = [62]
    · rw [if_pos x62] at ha
      split at ha
      · rename_i e
        subst e
        simp [collB, zipCan, canT, x62]
      · simp at ha
    · rw [if_neg x62] at ha
      by_cases y62 : y = [62]
      · rw [if_pos y62] at hb
        split at hb
        · rename_i e
          subst e
          have e2 : zipCan a [] = true := by cases a <;> rfl
          simp [collB, zipCan, canT, y62, e2]
        · simp at hb
      · rw [if_neg y62] at hb
        have ih := collB_zip a b ha hb (fun g => by have := h1 (by simpa using g); simpa [hasT, x62] using this) (fun g => by have := h2 (by simpa using g); simpa [hasT, y62] using this)
        simp only [collB, zipCan, canT, x62, y62, or_self, if_false, ih]
        by_cases e1 : x = [42]
        · simp [e1]
        · by_cases e2 : y = [42]
          · simp [e2]
          · by_cases e3 : x = y
            · simp [e3]
            · simp [e1, e2, e3, x62, y62]

theorem analyze_loop (T : List Bs) (hT : ∀ t ∈ T, t ≠ []) (hl : T.length ≤ 2147483648) (d : Nat) : ∀ (i : Nat) (p f : Bool), i ≤ T.length → T.length - i = d →
    Ev (fun k => server_analyzeTokens.l0 k p f (T.map mkB) ((T.map mkB).length : Int) (i : Int)) (p || hasT 42 (T.drop i), f || hasT 62 (T.drop i)) := by
  induction d with
  | zero =>
    intro i p f h1 h2
    refine Ev.step (f := fun _ => some (p, f)) (fun k => ?_) ?_
    · simp only [server_analyzeTokens.l0]
      rw [if_neg (by simp; omega)]
    · rw [List.drop_of_length_le (by omega)]
      simp only [hasT, List.any_nil, Bool.or_false]
      exact Ev.now _
  | succ d ih =>
    intro i p f h1 h2
    have hlt : i < T.length := by omega
    have hr := rd_mkB T i hlt
    obtain ⟨c, r, hc⟩ : ∃ c r, T[i] = c :: r := by
      cases hh : T[i] with
      | nil => exact absurd hh (hT _ (List.getElem_mem hlt))
      | cons c r => exact ⟨c, r, rfl⟩
    have hsz : ((mkB (c :: r)).size : Int) = (r.length : Int) + 1 := by rw [size_mkB]; simp
    rw [drop_get _ _ hlt, hc]
    have hb := bt0 c r
    by_cases hr0 : r = []
    · subst hr0
      refine Ev.step (f := fun k => server_analyzeTokens.j1 k p f (mkB [c]) (T.map mkB) ((T.map mkB).length : Int) (i : Int) false) (fun k => ?_) ?_
      · simp only [server_analyzeTokens.l0, hr, hc]
        rw [if_pos (by simp; omega), if_pos (by omega), if_pos (by simp; omega), if_neg (by rw [hsz]; simp)]
        rw [show decide (((mkB [c]).size : Int) > 1) = false from decide_eq_false (by rw [hsz]; simp)]
      · by_cases e1 : c = 42
        · refine Ev.step (f := fun k => server_analyzeTokens.l0 k true f (T.map mkB) ((T.map mkB).length : Int) ((i + 1 : Nat) : Int)) (fun k => ?_) ?_
          · simp only [server_analyzeTokens.j1]
            rw [if_neg (by simp), if_pos (by rw [hsz]; simp), if_pos (by rw [hb, e1]; rfl), wrap_nat i (by omega)]
          · have := ih (i + 1) true f (by omega) (by omega)
            simpa [hasT, e1] using this
        · by_cases e2 : c = 62
          · refine Ev.step (f := fun k => server_analyzeTokens.l0 k p true (T.map mkB) ((T.map mkB).length : Int) ((i + 1 : Nat) : Int)) (fun k => ?_) ?_
            · simp only [server_analyzeTokens.j1]
              rw [if_neg (by simp), if_pos (by rw [hsz]; simp), if_neg (by rw [hb, e2]; decide), if_pos (by rw [hb, e2]; rfl), wrap_nat i (by omega)]
            · have := ih (i + 1) p true (by omega) (by omega)
              simpa [hasT, e2] using this
          · refine Ev.step (f := fun k => server_analyzeTokens.l0 k p f (T.map mkB) ((T.map mkB).length : Int) ((i + 1 : Nat) : Int)) (fun k => ?_) ?_
            · simp only [server_analyzeTokens.j1]
              rw [if_neg (by simp), if_pos (by rw [hsz]; simp), if_neg (by rw [hb]; intro g; exact e1 ((u8_eq c 42 (by decide)).1 g)), if_neg (by rw [hb]; intro g; exact e2 ((u8_eq c 62 (by decide)).1 g)), wrap_nat i (by omega)]
            · have := ih (i + 1) p f (by omega) (by omega)
              have q1 : ([c] == ([42] : Bs)) = false := by simp [e1]
              have q2 : ([c] == ([62] : Bs)) = false := by simp [e2]
              simpa only [hasT, List.any_cons, q1, q2, Bool.false_or] using this
    · have hrl : 1 ≤ r.length := by cases r with
        | nil => exact absurd rfl hr0
        | cons => simp
      refine Ev.step (f := fun k => server_analyzeTokens.j1 k p f (mkB (c :: r)) (T.map mkB) ((T.map mkB).length : Int) (i : Int) true) (fun k => ?_) ?_
      · simp only [server_analyzeTokens.l0, hr, hc]
        rw [if_pos (by simp; omega), if_pos (by omega), if_pos (by simp; omega), if_neg (by rw [hsz]; omega)]
        congr 1
        exact decide_eq_true (by rw [hsz]; omega)
      · refine Ev.step (f := fun k => server_analyzeTokens.l0 k p f (T.map mkB) ((T.map mkB).length : Int) ((i + 1 : Nat) : Int)) (fun k => ?_) ?_
        · simp only [server_analyzeTokens.j1]
          rw [if_pos trivial, wrap_nat i (by omega)]
        · have := ih (i + 1) p f (by omega) (by omega)
          have q1 : ((c :: r) == ([42] : Bs)) = false := by simp [hr0]
          have q2 : ((c :: r) == ([62] : Bs)) = false := by simp [hr0]
          simpa only [hasT, List.any_cons, q1, q2, Bool.false_or] using this
theorem analyze_ev (T : List Bs) (hT : ∀ t ∈ T, t ≠ []) (hl : T.length ≤ 2147483648) : Ev (fun k => server_analyzeTokens.f k (T.map mkB)) (hasT 42 T, hasT 62 T) := by
  have := analyze_loop T hT hl T.length 0 false false (by omega) (by omega)
  simpa [server_analyzeTokens.f] using this

theorem can_ev (t u : Bs) (ht : goodT t) (hu : goodT u) : Ev (fun k => server_tokensCanMatch.f k (mkB t) (mkB u)) (canT t u) := by
  obtain ⟨c, r, rfl⟩ := good_cons ht
  obtain ⟨c', r', rfl⟩ := good_cons hu
  have hs : ¬ ((mkB (c :: r)).size : Int) = 0 := by rw [size_mkB]; simp; omega
  have hs' : ¬ ((mkB (c' :: r')).size : Int) = 0 := by rw [size_mkB]; simp; omega
  have b1 := bt0 c r
  have b2 := bt0 c' r'
  have g1 : ∀ n : Nat, n < 256 → (UInt8.ofNat n = 42 ∨ UInt8.ofNat n = 62) → ((bt (mkB (c :: r)) 0 = (n : Int)) ↔ (c :: r) = [UInt8.ofNat n]) := by
    intro n hn hw
    rw [b1]
    constructor
    · intro h
      have hc := (u8_eq c n hn).1 h
      have := goodT_star ht rfl (by rw [hc]; exact hw)
      rw [hc, this]
    · intro h
      exact (u8_eq c n hn).2 (List.cons.inj h).1
  have g2 : ∀ n : Nat, n < 256 → (UInt8.ofNat n = 42 ∨ UInt8.ofNat n = 62) → ((bt (mkB (c' :: r')) 0 = (n : Int)) ↔ (c' :: r') = [UInt8.ofNat n]) := by
    intro n hn hw
    rw [b2]
    constructor
    · intro h
      have hc := (u8_eq c' n hn).1 h
      have := goodT_star hu rfl (by rw [hc]; exact hw)
      rw [hc, this]
    · intro h
      exact (u8_eq c' n hn).2 (List.cons.inj h).1
  have k1 := g1 42 (by decide) (by decide)
  have k2 := g2 42 (by decide) (by decide)
  have k3 := g1 62 (by decide) (by decide)
  have k4 := g2 62 (by decide) (by decide)
  have e42 : (UInt8.ofNat 42) = 42 := rfl
  have e62 : (UInt8.ofNat 62) = 62 := rfl
  rw [e42] at k1 k2
  rw [e62] at k3 k4
  refine Ev.step (f := fun _ => some (canT (c :: r) (c' :: r'))) (fun k => ?_) (Ev.now _)
  unfold server_tokensCanMatch.f
  rw [if_neg hs, show (((mkB (c' :: r')).size : Int) == 0) = false from beq_eq_false_iff_ne.mpr hs']
  simp only [server_tokensCanMatch.j0]
  rw [if_neg (by simp), if_pos (by omega), if_pos (by omega)]
  have z1 : (bt (mkB (c :: r)) 0 = 42) ↔ (c :: r) = [42] := k1
  have z2 : (bt (mkB (c' :: r')) 0 = 42) ↔ (c' :: r') = [42] := k2
  have z3 : (bt (mkB (c :: r)) 0 = 62) ↔ (c :: r) = [62] := k3
  have z4 : (bt (mkB (c' :: r')) 0 = 62) ↔ (c' :: r') = [62] := k4
  simp only [z1, z2, z3, z4, toList_mkB]
  generalize (c :: r) = x
  generalize (c' :: r') = y
  unfold canT
  by_cases q1 : x = [42]
  · simp [q1]
  · by_cases q2 : y = [42]
    · simp [q2]
    · by_cases q3 : x = [62]
      · simp [q3]
      · by_cases q4 : y = [62]
        · simp [q4]
        · simp [q1, q2, q3, q4]
theorem canAll_ev : ∀ a b : List Bs, (∀ t ∈ a, goodT t) → (∀ t ∈ b, goodT t) → Ev (fun k => server_SubjectsCollide.canAll k (a.map mkB) (b.map mkB)) (zipCan a b)
  | [], _, _, _ => Ev.now _
  | _ :: _, [], _, _ => Ev.now _
  | t :: ts, u :: us, ha, hb => by
    have ih := canAll_ev ts us (fun x hx => ha x (List.mem_cons_of_mem _ hx)) (fun x hx => hb x (List.mem_cons_of_mem _ hx))
    show Ev (fun k => (server_tokensCanMatch.f k (mkB t) (mkB u)).bind fun c => if c = true then server_SubjectsCollide.canAll k (ts.map mkB) (us.map mkB) else some false) _
    refine Ev.bind (can_ev t u (ha t (by simp)) (hb u (by simp))) ?_
    rw [zipCan]
    cases canT t u with
    | true => simpa using ih
    | false => simp; exact Ev.now _

theorem collide_loop (a b : List Bs) (h1 : a.length ≤ 2147483648) (h2 : b.length ≤ 2147483648) (d : Nat) : ∀ i : Nat, i ≤ a.length → i ≤ b.length → a.length - i = d →
    Ev (fun k => spec_collide.l0 k (a.map mkB) (b.map mkB) (i : Int)) (collB (a.drop i) (b.drop i)) := by
  induction d with
  | zero =>
    intro i g1 g2 g3
    have hi : i = a.length := by omega
    rw [List.drop_of_length_le (l := a) (by omega)]
    by_cases hb : i < b.length
    · rw [drop_get b i hb]
      refine Ev.step (f := fun k => spec_collide.j1 k (a.map mkB) (b.map mkB) (i : Int) true) (fun k => ?_) ?_
      · simp only [spec_collide.l0]
        rw [if_neg (by simp; omega)]
        congr 1
        exact decide_eq_true (by simp; omega)
      · refine Ev.step (f := fun k => spec_collide.j2 k (a.map mkB) (b.map mkB) (i : Int) true) (fun k => ?_) ?_
        · simp only [spec_collide.j1]
          rw [if_pos trivial, if_pos (by simp; omega)]
        · refine Ev.step (f := fun _ => some false) (fun k => ?_) (Ev.now _)
          simp only [spec_collide.j2]
          rw [if_pos trivial]
    · rw [List.drop_of_length_le (l := b) (by omega)]
      refine Ev.step (f := fun k => spec_collide.j1 k (a.map mkB) (b.map mkB) (i : Int) false) (fun k => ?_) ?_
      · simp only [spec_collide.l0]
        rw [if_neg (by simp; omega)]
        congr 1
        exact decide_eq_false (by simp; omega)
      · refine Ev.step (f := fun _ => some true) (fun k => ?_) (Ev.now _)
        simp only [spec_collide.j1]
        rw [if_neg (by simp)]
  | succ d ih =>
    intro i g1 g2 g3
    have hA : i < a.length := by omega
    rw [drop_get a i hA]
    refine Ev.step (f := fun k => spec_collide.j1 k (a.map mkB) (b.map mkB) (i : Int) true) (fun k => ?_) ?_
    · simp only [spec_collide.l0]
      rw [if_pos (by simp; omega)]
    by_cases hB : i < b.length
    · rw [drop_get b i hB]
      have rx := tok_get a i hA
      have ry := tok_get b i hB
      have hi := ih (i + 1) (by omega) (by omega) (by omega)
      refine Ev.step (f := fun k => spec_collide.j2 k (a.map mkB) (b.map mkB) (i : Int) false) (fun k => ?_) ?_
      · simp only [spec_collide.j1]
        rw [if_pos trivial, if_neg (by simp; omega)]
        congr 1
        exact decide_eq_false (by simp; omega)
      refine Ev.step (f := fun k => spec_collide.j3 k (a.map mkB) (b.map mkB) (i : Int) (decide (a[i] = [62] ∨ b[i] = [62]))) (fun k => ?_) ?_
      · simp only [spec_collide.j2, rx, ry]
        rw [if_neg (by simp), if_pos (by omega), if_pos (by simp; omega)]
        by_cases x62 : a[i] = [62]
        · rw [if_pos x62]
          simp [x62]
        · rw [if_neg x62, if_pos (by simp; omega)]
          congr 1
          rw [Bool.eq_iff_iff]
          simp [x62]
      by_cases h62 : a[i] = [62] ∨ b[i] = [62]
      · rw [decide_eq_true h62]
        refine Ev.step (f := fun _ => some true) (fun k => ?_) ?_
        · simp only [spec_collide.j3]
          rw [if_pos trivial]
        · rw [collB, if_pos h62]
          exact Ev.now _
      · rw [decide_eq_false h62]
        by_cases h42 : a[i] = [42] ∨ b[i] = [42] ∨ a[i] = b[i]
        · refine Ev.step (f := fun k => spec_collide.l0 k (a.map mkB) (b.map mkB) ((i + 1 : Nat) : Int)) (fun k => ?_) ?_
          · simp only [spec_collide.j3, rx, ry]
            rw [if_neg (by simp), if_pos (by omega), if_pos (by simp; omega)]
            by_cases x42 : a[i] = [42]
            · rw [if_pos x42, wrap_nat i (by omega)]
            · rw [if_neg x42, if_pos (by simp; omega)]
              by_cases y42 : b[i] = [42]
              · rw [if_pos y42, wrap_nat i (by omega)]
              · rw [if_neg y42, if_pos (by rcases h42 with h | h | h <;> first | exact absurd h x42 | exact absurd h y42 | exact h), wrap_nat i (by omega)]
          · rw [collB, if_neg h62, if_pos h42]
            exact hi
        · refine Ev.step (f := fun _ => some false) (fun k => ?_) ?_
          · simp only [spec_collide.j3, rx, ry]
            rw [if_neg (by simp), if_pos (by omega), if_pos (by simp; omega), if_neg (fun h => h42 (.inl h)), if_pos (by simp; omega), if_neg (fun h => h42 (.inr (.inl h))), if_neg (fun h => h42 (.inr (.inr h)))]
          · rw [collB, if_neg h62, if_neg h42]
            exact Ev.now _
    · rw [List.drop_of_length_le (l := b) (by omega)]
      refine Ev.step (f := fun k => spec_collide.j2 k (a.map mkB) (b.map mkB) (i : Int) true) (fun k => ?_) ?_
      · simp only [spec_collide.j1]
        rw [if_pos trivial, if_neg (by simp; omega)]
        congr 1
        exact decide_eq_true (by simp; omega)
      · refine Ev.step (f := fun _ => some false) (fun k => ?_) (Ev.now _)
        simp only [spec_collide.j2]
        rw [if_pos trivial]
theorem specCollide_ev (s t : ByteArray) (h1 : s.size ≤ 2147483647) (h2 : t.size ≤ 2147483647) : Ev (fun k => spec_Collide.f k s t) (collB (toks [] (bl s)) (toks [] (bl t))) := by
  unfold spec_Collide.f spec_collide.f
  have hc := toks_length_le (bl t)
  have hl := bl_len t
  have hc' := toks_length_le (bl s)
  have hl' := bl_len s
  refine Ev.bind (Tokens_ev s h1) (Ev.bind (Tokens_ev t h2) (Ev.bind ?_ (Ev.now _)))
  have := collide_loop (toks [] (bl s)) (toks [] (bl t)) (by omega) (by omega) (toks [] (bl s)).length 0 (by omega) (by omega) (by omega)
  simpa using this

theorem both_ev (X Y : List Bs) (hX : ∀ t ∈ X, goodT t) (hY : ∀ t ∈ Y, goodT t) (fX : formedB X = true) (fY : formedB Y = true) :
    Ev (fun k => server_SubjectsCollide.both k (X.map mkB) (Y.map mkB) (hasT 62 X) (hasT 62 Y)) (collB X Y) := by
  unfold server_SubjectsCollide.both
  simp only [List.length_map]
  by_cases h : (X.length < Y.length ∧ hasT 62 X = false) ∨ (Y.length < X.length ∧ hasT 62 Y = false)
  · have e : collB X Y = false := by
      rcases h with h | h
      · exact collB_short X Y h.1 h.2 fY
      · rw [collB_symm]
        exact collB_short Y X h.1 h.2 fX
    rw [e]
    by_cases g : hasT 62 X = false ∧ hasT 62 Y = false ∧ X.length ≠ Y.length
    · simp only [if_pos g]
      exact Ev.now _
    · simp only [if_neg g, if_pos h]
      exact Ev.now _
  · have g : ¬ (hasT 62 X = false ∧ hasT 62 Y = false ∧ X.length ≠ Y.length) := by
      rintro ⟨g1, g2, g3⟩
      by_cases hl : X.length < Y.length
      · exact h (.inl ⟨hl, g1⟩)
      · exact h (.inr ⟨by omega, g2⟩)
    simp only [if_neg g, if_neg h]
    rw [collB_zip X Y fX fY (fun hl => by
      cases hh : hasT 62 X with
      | true => rfl
      | false => exact absurd (.inl ⟨hl, hh⟩) h) (fun hl => by
      cases hh : hasT 62 Y with
      | true => rfl
      | false => exact absurd (.inr ⟨hl, hh⟩) h)]
    exact canAll_ev X Y hX hY

theorem collides_ev (s t : ByteArray) (hs : validB (bl s) = true) (ht : validB (bl t) = true) (h1 : s.size ≤ 2147483647) (h2 : t.size ≤ 2147483647) :
    Ev (fun k => server_SubjectsCollide.f k s t) (collB (toks [] (bl s)) (toks [] (bl t))) := by
  unfold server_SubjectsCollide.f
  simp only [if_pos (show s.size ≤ 2147483647 ∧ t.size ≤ 2147483647 from ⟨h1, h2⟩)]
  by_cases he : s.toList = t.toList
  · simp only [if_pos he]
    rw [toList_bl, toList_bl] at he
    rw [he, collB_self]
    exact Ev.now _
  · simp only [if_neg he]
    have gs := valid_good hs
    have gt := valid_good ht
    have cs := validB_count hs
    have ct := validB_count ht
    have fs := (validB_parts hs).2.2.1
    have ft := (validB_parts ht).2.2.1
    refine Ev.bind (analyze_ev _ (fun x hx => (gs x hx).1) (by omega)) (Ev.bind (analyze_ev _ (fun x hx => (gt x hx).1) (by omega)) ?_)
    unfold server_SubjectsCollide.rest
    rw [show tokB s = (toks [] (bl s)).map mkB from rfl, show tokB t = (toks [] (bl t)).map mkB from rfl]
    have hne : toks [] (bl s) ≠ toks [] (bl t) := fun g => he (by rw [toList_bl, toList_bl]; exact toks_inj g)
    generalize hX : toks [] (bl s) = X at *
    generalize hY : toks [] (bl t) = Y at *
    cases p1 : hasT 42 X <;> cases f1 : hasT 62 X <;> cases p2 : hasT 42 Y <;> cases f2 : hasT 62 Y <;> simp only [Bool.or_self, Bool.or_true, Bool.or_false, Bool.true_or, Bool.false_or, Bool.not_false, Bool.not_true, if_true, if_false, Bool.false_eq_true]
    case false.false.false.false =>
      have e : collB X Y = false := by
        cases hh : collB X Y with
        | false => rfl
        | true => exact absurd (collB_lit X Y p1 f1 p2 f2 hh) hne
      rw [e]
      exact Ev.now _
    case false.false.false.true => rw [collB_sub X Y p1 f1]; exact subsetTok_ev X Y gs gt (by omega)
    case false.false.true.false => rw [collB_sub X Y p1 f1]; exact subsetTok_ev X Y gs gt (by omega)
    case false.false.true.true => rw [collB_sub X Y p1 f1]; exact subsetTok_ev X Y gs gt (by omega)
    case false.true.false.false => rw [collB_symm, collB_sub Y X p2 f2]; exact subsetTok_ev Y X gt gs (by omega)
    case true.false.false.false => rw [collB_symm, collB_sub Y X p2 f2]; exact subsetTok_ev Y X gt gs (by omega)
    case true.true.false.false => rw [collB_symm, collB_sub Y X p2 f2]; exact subsetTok_ev Y X gt gs (by omega)
    all_goals
      have hb := both_ev X Y gs gt fs ft
      rw [f1, f2] at hb
      exact hb

theorem FnCollide : laws_FnCollide.Pure := by
  intro s t hs ht
  apply Ev.rounds
  have hout : Ev (fun k => laws_FnCollide.j0 k s t true) true := Ev.step (f := fun _ => some true) (fun k => by simp [laws_FnCollide.j0]) (Ev.now _)
  unfold laws_FnCollide.f
  by_cases h1 : (s.size : Int) > 2147483647
  · simp only [if_pos h1]
    exact hout
  · by_cases h2 : (t.size : Int) > 2147483647
    · simp only [if_neg h1, decide_eq_true h2]
      exact hout
    · simp only [if_neg h1, decide_eq_false h2]
      refine Ev.step (g := fun k => laws_FnCollide.j0 k s t false) (fun k => by simp only [laws_FnCollide.j0, Bool.false_eq_true, if_false]; rfl) ?_
      refine Ev.bind (valid_ev s (by omega)) ?_
      cases hv : validB (bl s) with
      | false => simp; exact Ev.now _
      | true =>
        simp only [if_true]
        refine Ev.bind (valid_ev t (by omega)) ?_
        cases hw : validB (bl t) with
        | false => simp; exact Ev.now _
        | true =>
          simp only [if_true]
          unfold impl_Collide.f
          refine Ev.bind (Ev.bind (collides_ev s t hv hw (by omega) (by omega)) (Ev.now _)) (Ev.bind (specCollide_ev s t (by omega) (by omega)) ?_)
          simp
          exact Ev.now _

end Go.Proofs.Ytaobajfdnidkfaa.Pure
