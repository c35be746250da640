-- Written by hprint.py (this session's program, over the kit's printing program, with this session's own contracts in it). Not trusted: Lean checks it.
import Derived.Test.YtcnbnljlopopkaaDoorPFnListTurnedx0
import Derived.Test.YtcnbnljlopopkaaDoorPFnListTurnedx1
import Derived.Test.YtcnbnljlopopkaaDoorPFnListTurnedx2
import Derived.Test.YtcnbnljlopopkaaDoorPFnListTurnedx3
import Derived.Test.YtcnbnljlopopkaaDoorPFnListTurnedx4
import Derived.Test.YtcnbnljlopopkaaDoorPFnListTurnedx5
import Derived.Test.YtcnbnljlopopkaaDoorPFnListTurnedx6
import Derived.Test.YtcnbnljlopopkaaDoorPFnListTurnedx7
import Derived.Test.YtcnbnljlopopkaaDoorPFnListTurnedx8
namespace Go.Proofs.YtcnbnljlopopkaaDoor.PFnListTurned
open Go.RowKit Go.Proofs.YtcnbnljlopopkaaDoorW.PrintWords Go.Proofs.YtcnbnljlopopkaaDoorW.PrintLast Go.Proofs.YtcnbnljlopopkaaDoorW.PrintMore
attribute [local go_sem] max2_int min2_int max_two min_two max_three min_three max_four min_four   -- for this text's walks alone
set_option linter.unusedVariables false
set_option linter.unusedSimpArgs false

/-! ### laws_FnListTurned: function 6 -/
-- LAID YtcnbnljlopopkaaDoor.LsC.GLaid | ⟨⟨_, _, C0⟩, ⟨_, _, C1⟩⟩
open _root_.Go.Proofs.YtcnbnljlopopkaaDoor.Road _root_.Go.Proofs.YtcnbnljlopopkaaDoor.LsA _root_.Go.Proofs.YtcnbnljlopopkaaDoor.LsB _root_.Go.Proofs.YtcnbnljlopopkaaDoor.LsC _root_.Go.Proofs.YtcnbnljlopopkaaDoor.LsD _root_.Go.Proofs.YtcnbnljlopopkaaDoor.LsE
theorem Tokens_loop (s : ByteArray) (hs : s.size ≤ 2147483647) (d : Nat) : ∀ (i a : Nat) (out : List ByteArray), a ≤ i → i ≤ (bl s).length → (bl s).length - i = d → out.length + d < 8796093022208 →
  Ev (fun k => spec_Tokens.l0 k s out (a : Int) (i : Int)) (out ++ (toks (((bl s).take i).drop a) ((bl s).drop i)).map mkB) := by
 have hl := bl_len s
 induction d with
 | zero =>
  intro i a out h1 h2 h3 h4
  have hi : i = (bl s).length := by omega
  refine Ev.step (f := fun _ => some (out ++ [s.extract a s.size])) (fun k => ?_) ?_
  ·
   simp only [spec_Tokens.l0]
   rw [if_neg (by omega), if_pos (by omega), if_pos (by omega), if_pos (by omega)]
   simp
  ·
   rw [hi, List.drop_length, List.take_length, extract_mkB, ← hl, List.take_length]
   exact Ev.now _
 | succ d ih =>
  intro i a out h1 h2 h3 h4
  have hlt : i < (bl s).length := by omega
  have hb := bt_get s i hlt
  rw [drop_get _ _ hlt]
  by_cases hc : (bl s)[i] = 46
  ·
   refine Ev.step (f := fun k => spec_Tokens.l0 k s (out ++ [s.extract a i]) ((i + 1 : Nat) : Int) ((i + 1 : Nat) : Int)) (fun k => ?_) ?_
   ·
    simp only [spec_Tokens.l0]
    rw [if_pos (by omega), if_pos (by omega), if_pos (by rw [hb, hc]; rfl), if_pos (by omega), if_pos (by omega), if_pos (by omega), if_pos (by omega), wrap_nat i (by omega)]
    simp
   ·
    have := ih (i + 1) (i + 1) (out ++ [s.extract a i]) (Nat.le_refl _) (by omega) (by omega) (by simp; omega)
    rw [toks, if_pos hc]
    simpa [extract_mkB] using this
  ·
   refine Ev.step (f := fun k => spec_Tokens.l0 k s out (a : Int) ((i + 1 : Nat) : Int)) (fun k => ?_) ?_
   ·
    simp only [spec_Tokens.l0]
    rw [if_pos (by omega), if_pos (by omega), if_neg (by rw [hb]; intro h; exact hc ((u8_eq _ 46 (by omega)).1 h)), wrap_nat i (by omega)]
   ·
    have := ih (i + 1) a out (by omega) (by omega) (by omega) (by omega)
    rw [toks, if_neg hc, ← take_drop_snoc _ _ _ h1 hlt]
    exact this

theorem Tokens_ev (s : ByteArray) (hs : s.size ≤ 2147483647) : Ev (fun k => spec_Tokens.f k s) ((toks [] (bl s)).map mkB) := by
 have := Tokens_loop s hs (bl s).length 0 0 [] (by omega) (by omega) (by omega) (by have := bl_len s; simp; omega)
 simpa [spec_Tokens.f] using this

theorem tok_get (ts : List Bs) (i : Nat) (h : i < ts.length) : (rdOf ByteArray.empty (ts.map mkB) (i : Int)).toList = ts[i] := by
 rw [rdOf_nat _ _ _ (by simpa using h)]
 simp [toList_mkB]

theorem Formed_loop (ts : List Bs) (hs : ts.length ≤ 2147483648) (d : Nat) : ∀ i : Nat, i ≤ ts.length → ts.length - i = d → Ev (fun k => spec_Formed.l0 k (ts.map mkB) (i : Int)) (formedB (ts.drop i)) := by
 induction d with
 | zero =>
  intro i h1 h2
  refine Ev.step (f := fun _ => some true) (fun k => ?_) ?_
  ·
   simp only [spec_Formed.l0]
   rw [if_neg (by simp; omega)]
  ·
   rw [List.drop_of_length_le (by omega)]
   exact Ev.now _
 | succ d ih =>
  intro i h1 h2
  have hlt : i < ts.length := by omega
  have hg := tok_get ts i hlt
  have hi := ih (i + 1) (by omega) (by omega)
  rw [drop_get _ _ hlt]
  by_cases e1 : ts[i] = []
  ·
   refine Ev.step (f := fun _ => some false) (fun k => ?_) ?_
   ·
    simp only [spec_Formed.l0]
    rw [if_pos (by simp; omega), if_pos (by omega), if_pos (by rw [hg]; exact e1)]
   ·
    simp only [formedB, if_pos e1]
    exact Ev.now _
  ·
   by_cases e2 : ts[i] = [62]
   ·
    by_cases e3 : ts.drop (i + 1) = []
    ·
     refine Ev.step (f := fun k => spec_Formed.l0 k (ts.map mkB) ((i + 1 : Nat) : Int)) (fun k => ?_) ?_
     ·
      simp only [spec_Formed.l0]
      rw [if_pos (by simp; omega), if_pos (by omega), if_neg (by rw [hg]; exact e1), if_pos (by rw [hg]; exact e2), wrap_nat i (by omega), if_neg (by simp at e3; simp; omega)]
     ·
      simp only [formedB, if_neg e1, if_pos e2, if_pos e3]
      exact hi
    ·
     refine Ev.step (f := fun _ => some false) (fun k => ?_) ?_
     ·
      simp only [spec_Formed.l0]
      rw [if_pos (by simp; omega), if_pos (by omega), if_neg (by rw [hg]; exact e1), if_pos (by rw [hg]; exact e2), wrap_nat i (by omega), if_pos (by simp at e3; simp; omega)]
     ·
      simp only [formedB, if_neg e1, if_pos e2, if_neg e3]
      exact Ev.now _
   ·
    refine Ev.step (f := fun k => spec_Formed.l0 k (ts.map mkB) ((i + 1 : Nat) : Int)) (fun k => ?_) ?_
    ·
     simp only [spec_Formed.l0]
     rw [if_pos (by simp; omega), if_pos (by omega), if_neg (by rw [hg]; exact e1), if_neg (by rw [hg]; exact e2), wrap_nat i (by omega)]
    ·
     simp only [formedB, if_neg e1, if_neg e2]
     exact hi

theorem Formed_ev (ts : List Bs) (hs : ts.length ≤ 2147483648) : Ev (fun k => spec_Formed.f k (ts.map mkB)) (formedB ts) := by
 have := Formed_loop ts hs ts.length 0 (by omega) (by omega)
 simpa [spec_Formed.f] using this

theorem Blank_of (c : UInt8) : spec_Blank.f (c.toNat : Int) = some (blankB c) := by
 have e32 : (c.toNat : Int) = 32 ↔ c = 32 := u8_eq c 32 (by omega)
 have e9 : (c.toNat : Int) = 9 ↔ c = 9 := u8_eq c 9 (by omega)
 have e10 : (c.toNat : Int) = 10 ↔ c = 10 := u8_eq c 10 (by omega)
 have e13 : (c.toNat : Int) = 13 ↔ c = 13 := u8_eq c 13 (by omega)
 have e12 : (c.toNat : Int) = 12 ↔ c = 12 := u8_eq c 12 (by omega)
 unfold spec_Blank.f blankB
 by_cases h1 : c = 32
 ·
  rw [if_pos (e32.2 h1)]; simp [h1]
 ·
  rw [if_neg (fun h => h1 (e32.1 h))]
  by_cases h2 : c = 9
  ·
   rw [if_pos (e9.2 h2)]; simp [h2]
  ·
   rw [if_neg (fun h => h2 (e9.1 h))]
   by_cases h3 : c = 10
   ·
    rw [if_pos (e10.2 h3)]; simp [h3]
   ·
    rw [if_neg (fun h => h3 (e10.1 h))]
    by_cases h4 : c = 13
    ·
     rw [if_pos (e13.2 h4)]; simp [h4]
    ·
     rw [if_neg (fun h => h4 (e13.1 h))]
     by_cases h5 : c = 12
     ·
      have : ((c.toNat : Int) == 12) = true := beq_iff_eq.2 (e12.2 h5)
      rw [this]; simp [h5]
     ·
      have : ((c.toNat : Int) == 12) = false := beq_eq_false_iff_ne.2 (fun h => h5 (e12.1 h))
      rw [this]; simp [h1, h2, h3, h4, h5]

theorem Spaced_loop (s : ByteArray) (hs : s.size ≤ 2147483647) (d : Nat) : ∀ i : Nat, i ≤ (bl s).length → (bl s).length - i = d → Ev (fun k => spec_Spaced.l0 k s (i : Int)) (spacedB ((bl s).drop i)) := by
 have hl := bl_len s
 induction d with
 | zero =>
  intro i h1 h2
  refine Ev.step (f := fun _ => some false) (fun k => ?_) ?_
  ·
   simp only [spec_Spaced.l0]
   rw [if_neg (by omega)]
  ·
   rw [List.drop_of_length_le (by omega)]
   exact Ev.now _
 | succ d ih =>
  intro i h1 h2
  have hlt : i < (bl s).length := by omega
  have hb := bt_get s i hlt
  rw [drop_get _ _ hlt]
  by_cases hc : blankB (bl s)[i] = true
  ·
   refine Ev.step (f := fun _ => some true) (fun k => ?_) ?_
   ·
    simp only [spec_Spaced.l0]
    rw [if_pos (by omega), if_pos (by omega), hb, Blank_of, hc]
    simp
   ·
    rw [spacedB_cons, hc, Bool.true_or]
    exact Ev.now _
  ·
   have hc' : blankB (bl s)[i] = false := by simpa using hc
   refine Ev.step (f := fun k => spec_Spaced.l0 k s ((i + 1 : Nat) : Int)) (fun k => ?_) ?_
   ·
    simp only [spec_Spaced.l0]
    rw [if_pos (by omega), if_pos (by omega), hb, Blank_of, hc', wrap_nat i (by omega)]
    simp
   ·
    rw [spacedB_cons, hc', Bool.false_or]
    exact ih (i + 1) (by omega) (by omega)

theorem Spaced_ev (s : ByteArray) (hs : s.size ≤ 2147483647) : Ev (fun k => spec_Spaced.f k s) (spacedB (bl s)) := by
 have := Spaced_loop s hs (bl s).length 0 (by omega) (by omega)
 simpa [spec_Spaced.f] using this

theorem SValid_ev (s : ByteArray) (hs : s.size ≤ 2147483647) : Ev (fun k => spec_Valid.f k s) (sValidB (bl s)) := by
 have hl := bl_len s
 have hc := toks_length_le (bl s)
 unfold spec_Valid.f sValidB
 refine Ev.bind (Tokens_ev s hs) (Ev.bind (Formed_ev _ (by omega)) ?_)
 cases formedB (toks [] (bl s)) with
 | true =>
  simp only [if_true]
  refine Ev.bind (Spaced_ev s hs) ?_
  simp only [Bool.true_and]
  exact Ev.now _
 | false =>
  simp
  exact Ev.now _

theorem clean_loop (s : ByteArray) (hs : s.size ≤ 2147483647) (d : Nat) : ∀ i : Nat, i ≤ (bl s).length → (bl s).length - i = d → Ev (fun k => laws_clean.l0 k s (i : Int)) (decide ((bl s).length ≤ 400) && ((bl s).drop i).all cleanC) := by
 have hl := bl_len s
 induction d with
 | zero =>
  intro i h1 h2
  refine Ev.step (f := fun k => laws_clean.j1 k s (i : Int) false) (fun k => ?_) (Ev.step (f := fun _ => some (decide ((s.size : Int) ≤ 400))) (fun k => ?_) ?_)
  ·
   simp only [laws_clean.l0]
   rw [if_neg (by omega)]
  ·
   simp [laws_clean.j1]
  ·
   rw [List.drop_of_length_le (by omega)]
   have : decide ((s.size : Int) ≤ 400) = (decide ((bl s).length ≤ 400) && List.all ([] : Bs) cleanC) := by
    simp only [List.all_nil, Bool.and_true]
    exact decide_eq_decide.2 (by omega)
   rw [this]
   exact Ev.now _
 | succ d ih =>
  intro i h1 h2
  have hlt : i < (bl s).length := by omega
  have hb := bt_get s i hlt
  rw [drop_get _ _ hlt]
  by_cases h4 : i ≤ 400
  ·
   refine Ev.step (f := fun k => laws_clean.j1 k s (i : Int) true) (fun k => ?_) ?_
   ·
    simp only [laws_clean.l0]
    rw [if_pos (by omega), decide_eq_true (by omega)]
   ·
    by_cases e1 : ((bl s)[i].toNat : Int) ≤ 32
    ·
     refine Ev.step (f := fun _ => some false) (fun k => ?_) ?_
     ·
      simp only [laws_clean.j1]
      rw [if_pos trivial, if_pos (by omega), if_pos (by omega), if_pos (by rw [hb]; exact e1)]
     ·
      have : cleanC (bl s)[i] = false := cleanC_lo e1
      simp only [List.all_cons, this, Bool.false_and, Bool.and_false]
      exact Ev.now _
    ·
     by_cases e2 : (bl s)[i] = 127
     ·
      refine Ev.step (f := fun _ => some false) (fun k => ?_) ?_
      ·
       simp only [laws_clean.j1]
       rw [if_pos trivial, if_pos (by omega), if_pos (by omega), if_neg (by rw [hb]; exact e1), if_pos (by rw [hb, e2]; rfl)]
      ·
       have : cleanC (bl s)[i] = false := cleanC_del e2
       simp only [List.all_cons, this, Bool.false_and, Bool.and_false]
       exact Ev.now _
     ·
      refine Ev.step (f := fun k => laws_clean.l0 k s ((i + 1 : Nat) : Int)) (fun k => ?_) ?_
      ·
       simp only [laws_clean.j1]
       rw [if_pos trivial, if_pos (by omega), if_pos (by omega), if_neg (by rw [hb]; exact e1), if_neg (by rw [hb]; intro h; exact e2 ((u8_eq _ 127 (by omega)).1 h)), wrap_nat i (by omega)]
      ·
       have : cleanC (bl s)[i] = true := cleanC_ok e1 e2
       simp only [List.all_cons, this, Bool.true_and]
       exact ih (i + 1) (by omega) (by omega)
  ·
   refine Ev.step (f := fun k => laws_clean.j1 k s (i : Int) false) (fun k => ?_) (Ev.step (f := fun _ => some (decide ((s.size : Int) ≤ 400))) (fun k => ?_) ?_)
   ·
    simp only [laws_clean.l0]
    rw [if_pos (by omega), decide_eq_false (by omega)]
   ·
    simp [laws_clean.j1]
   ·
    rw [decide_eq_false (by omega), decide_eq_false (p := (bl s).length ≤ 400) (by omega)]
    exact Ev.now _

theorem clean_ev (s : ByteArray) (hs : s.size ≤ 2147483647) : Ev (fun k => laws_clean.f k s) (cleanB (bl s)) := by
 have := clean_loop s hs (bl s).length 0 (by omega) (by omega)
 simpa [laws_clean.f, cleanB] using this

theorem tame_inner (ts : List Bs) (i : Nat) (hlt : i < ts.length) (hsz : ts[i].length ≤ 2147483648) (d : Nat) : ∀ j : Nat, j ≤ ts[i].length → ts[i].length - j = d → ∀ r : Bool,
  Ev (fun k => laws_tame.l0 k (ts.map mkB) ((i + 1 : Nat) : Int)) r →
  i < 2147483649 →
  Ev (fun k => laws_tame.l1 k (ts.map mkB) (i : Int) (j : Int)) ((decide (ts[i].length ≤ 1) || (ts[i].drop j).all fun c => c != 42 && c != 62) && r) := by
 have hrd : rdOf ByteArray.empty (ts.map mkB) (i : Int) = mkB ts[i] := by rw [rdOf_nat _ _ _ (by simpa using hlt)]; simp
 have hsize : (rdOf ByteArray.empty (ts.map mkB) (i : Int)).size = ts[i].length := by rw [hrd, size_mkB]
 induction d with
 | zero =>
  intro j h1 h2 r hr hi
  refine Ev.step (f := fun k => laws_tame.j2 k (ts.map mkB) (i : Int) (j : Int) false) (fun k => ?_) (Ev.step (f := fun k => laws_tame.l0 k (ts.map mkB) ((i + 1 : Nat) : Int)) (fun k => ?_) ?_)
  ·
   simp only [laws_tame.l1]
   rw [if_pos (by omega), if_pos (by simp; omega), if_neg (by rw [hsize]; omega)]
  ·
   simp only [laws_tame.j2]
   rw [if_neg (by simp), wrap_nat i (by omega)]
  ·
   rw [List.drop_of_length_le (by omega)]
   simpa using hr
 | succ d ih =>
  intro j h1 h2 r hr hi
  have hj : j < ts[i].length := by omega
  by_cases h3 : ts[i].length ≤ 1
  ·
   refine Ev.step (f := fun k => laws_tame.j2 k (ts.map mkB) (i : Int) (j : Int) false) (fun k => ?_) (Ev.step (f := fun k => laws_tame.l0 k (ts.map mkB) ((i + 1 : Nat) : Int)) (fun k => ?_) ?_)
   ·
    simp only [laws_tame.l1]
    rw [if_pos (by omega), if_pos (by simp; omega), if_pos (by rw [hsize]; omega), decide_eq_false (by rw [hsize]; omega)]
   ·
    simp only [laws_tame.j2]
    rw [if_neg (by simp), wrap_nat i (by omega)]
   ·
    rw [decide_eq_true h3]
    simpa using hr
  ·
   have hb : bt (rdOf ByteArray.empty (ts.map mkB) (i : Int)) (j : Int) = ((ts[i][j]).toNat : Int) := by
    rw [hrd, bt_get _ _ (by rw [bl_mkB]; exact hj)]
    simp only [bl_mkB]
   rw [drop_get _ _ hj]
   refine Ev.step (f := fun k => laws_tame.j2 k (ts.map mkB) (i : Int) (j : Int) true) (fun k => ?_) ?_
   ·
    simp only [laws_tame.l1]
    rw [if_pos (by omega), if_pos (by simp; omega), if_pos (by rw [hsize]; omega), decide_eq_true (by rw [hsize]; omega)]
   ·
    by_cases e1 : ts[i][j] = 42
    ·
     refine Ev.step (f := fun _ => some false) (fun k => ?_) ?_
     ·
      simp only [laws_tame.j2]
      rw [if_pos trivial, if_pos (by omega), if_pos (by simp; omega), if_pos (by omega), if_pos (by rw [hsize]; omega), if_pos (by rw [hb, e1]; rfl)]
     ·
      rw [decide_eq_false h3]
      simp only [List.all_cons, e1]
      exact Ev.now _
    ·
     by_cases e2 : ts[i][j] = 62
     ·
      refine Ev.step (f := fun _ => some false) (fun k => ?_) ?_
      ·
       simp only [laws_tame.j2]
       rw [if_pos trivial, if_pos (by omega), if_pos (by simp; omega), if_pos (by omega), if_pos (by rw [hsize]; omega), if_neg (by rw [hb]; intro h; exact e1 ((u8_eq _ 42 (by omega)).1 h)), if_pos (by rw [hb, e2]; rfl)]
      ·
       rw [decide_eq_false h3]
       simp only [List.all_cons, e2]
       exact Ev.now _
     ·
      refine Ev.step (f := fun k => laws_tame.l1 k (ts.map mkB) (i : Int) ((j + 1 : Nat) : Int)) (fun k => ?_) ?_
      ·
       simp only [laws_tame.j2]
       rw [if_pos trivial, if_pos (by omega), if_pos (by simp; omega), if_pos (by omega), if_pos (by rw [hsize]; omega), if_neg (by rw [hb]; intro h; exact e1 ((u8_eq _ 42 (by omega)).1 h)), if_neg (by rw [hb]; intro h; exact e2 ((u8_eq _ 62 (by omega)).1 h)), wrap_nat j (by omega)]
      ·
       have : ((ts[i][j] != 42) && (ts[i][j] != 62)) = true := by simp [e1, e2]
       simp only [List.all_cons, this, Bool.true_and]
       exact ih (j + 1) (by omega) (by omega) r hr hi

theorem tame_loop (ts : List Bs) (hs : ts.length ≤ 2147483648) (hsz : ∀ t ∈ ts, t.length ≤ 2147483648) (d : Nat) : ∀ i : Nat, i ≤ ts.length → ts.length - i = d → Ev (fun k => laws_tame.l0 k (ts.map mkB) (i : Int)) (tameB (ts.drop i)) := by
 induction d with
 | zero =>
  intro i h1 h2
  refine Ev.step (f := fun _ => some true) (fun k => ?_) ?_
  ·
   simp only [laws_tame.l0]
   rw [if_neg (by simp; omega)]
  ·
   rw [List.drop_of_length_le (by omega)]
   exact Ev.now _
 | succ d ih =>
  intro i h1 h2
  have hlt : i < ts.length := by omega
  refine Ev.step (f := fun k => laws_tame.l1 k (ts.map mkB) (i : Int) ((0 : Nat) : Int)) (fun k => ?_) ?_
  ·
   simp only [laws_tame.l0]
   rw [if_pos (by simp; omega)]
   rfl
  ·
   rw [drop_get _ _ hlt]
   have := tame_inner ts i hlt (hsz _ (List.getElem_mem hlt)) ts[i].length 0 (by omega) (by omega) _ (ih (i + 1) (by omega) (by omega)) (by omega)
   rw [tameB_cons]
   exact this

theorem toks_each (p l : Bs) (n : Nat) (h : p.length + l.length ≤ n) : ∀ t ∈ toks p l, t.length ≤ n := by
 induction l generalizing p with
 | nil => intro t ht; simp [toks] at ht; rw [ht]; simpa using h
 | cons c l ih =>
  unfold toks
  simp at h
  split
  ·
   intro t ht
   rcases List.mem_cons.1 ht with ht | ht
   ·
    rw [ht]; omega
   ·
    exact ih [] (by simp; omega) t ht
  ·
   exact ih _ (by simp; omega)

theorem tame_ev (s : ByteArray) (hs : s.size ≤ 2147483647) : Ev (fun k => laws_tame.f k s) (tameB (toks [] (bl s))) := by
 have hl := bl_len s
 have hc := toks_length_le (bl s)
 unfold laws_tame.f
 refine Ev.bind (Tokens_ev s hs) ?_
 have := tame_loop (toks [] (bl s)) (by omega) (toks_each _ _ _ (by simp; omega)) (toks [] (bl s)).length 0 (by omega) (by omega)
 simpa using this

theorem valid_ev (s : ByteArray) (hs : s.size ≤ 2147483647) : Ev (fun k => laws_valid.f k s) (validB (bl s)) := by
 unfold laws_valid.f validB
 refine Ev.bind (clean_ev s hs) ?_
 cases cleanB (bl s) with
 | false => simp; exact Ev.now _
 | true =>
  simp only [if_true, Bool.true_and]
  refine Ev.bind (SValid_ev s hs) ?_
  cases sValidB (bl s) with
  | false => simp; exact Ev.now _
  | true =>
   simp only [if_true, Bool.true_and]
   refine Ev.bind (tame_ev s hs) ?_
   exact Ev.now _
theorem Literal_loop (ts : List Bs) (hs : ts.length ≤ 2147483648) (d : Nat) : ∀ i : Nat, i ≤ ts.length → ts.length - i = d → Ev (fun k => spec_Literal.l0 k (ts.map mkB) (i : Int)) ((ts.drop i).all notW) := by
 induction d with
 | zero =>
  intro i h1 h2
  refine Ev.step (f := fun _ => some true) (fun k => ?_) ?_
  ·
   simp only [spec_Literal.l0]
   rw [if_neg (by simp; omega)]
  ·
   rw [List.drop_of_length_le (by omega)]
   exact Ev.now _
 | succ d ih =>
  intro i h1 h2
  have hlt : i < ts.length := by omega
  have hg := tok_get ts i hlt
  have hi := ih (i + 1) (by omega) (by omega)
  rw [drop_get _ _ hlt, List.all_cons]
  by_cases e1 : ts[i] = [42]
  ·
   refine Ev.step (f := fun _ => some false) (fun k => ?_) ?_
   ·
    simp only [spec_Literal.l0]
    rw [if_pos (by simp; omega), if_pos (by omega), if_pos (by rw [hg]; exact e1)]
   ·
    rw [e1]
    exact Ev.now _
  ·
   by_cases e2 : ts[i] = [62]
   ·
    refine Ev.step (f := fun _ => some false) (fun k => ?_) ?_
    ·
     simp only [spec_Literal.l0]
     rw [if_pos (by simp; omega), if_pos (by omega), if_neg (by rw [hg]; exact e1), if_pos (by rw [hg]; exact e2)]
    ·
     rw [e2]
     exact Ev.now _
   ·
    refine Ev.step (f := fun k => spec_Literal.l0 k (ts.map mkB) ((i + 1 : Nat) : Int)) (fun k => ?_) ?_
    ·
     simp only [spec_Literal.l0]
     rw [if_pos (by simp; omega), if_pos (by omega), if_neg (by rw [hg]; exact e1), if_neg (by rw [hg]; exact e2), wrap_nat i (by omega)]
    ·
     have : notW ts[i] = true := by simp [notW, e1, e2]
     rw [this, Bool.true_and]
     exact hi

theorem Literal_ev (s : ByteArray) (hs : s.size ≤ 2147483647) : Ev (fun k => spec_Literal.f k s) ((toks [] (bl s)).all notW) := by
 have hl := bl_len s
 have hc := toks_length_le (bl s)
 unfold spec_Literal.f
 refine Ev.bind (Tokens_ev s hs) ?_
 have := Literal_loop (toks [] (bl s)) (by omega) (toks [] (bl s)).length 0 (by omega) (by omega)
 simpa using this

/-! ### what a script leaves, as the law's own functions tell it -/
theorem rdS_nat (l : List S51) (i : Nat) (h : i < l.length) : rd_T51 l (i : Int) = l[i] := by
 unfold rd_T51
 rw [Int.toNat_natCast, List.getD_eq_getElem?_getD, List.getElem?_eq_getElem h]
 rfl
theorem rdE_nat (l : List S31) (i : Nat) (h : i < l.length) : rd_T31 l (i : Int) = l[i] := by
 unfold rd_T31
 rw [Int.toNat_natCast, List.getD_eq_getElem?_getD, List.getElem?_eq_getElem h]
 rfl
theorem zzFits5_loop (l : List S51) (hl : l.length ≤ 2147483647) (d : Nat) : ∀ i : Nat, i ≤ l.length → l.length - i = d → Ev (fun k => laws_zzFits5.l0 k l (l.length : Int) (i : Int)) ((l.drop i).all (fun d => decide (d.f1.size ≤ 2147483647))) := by
 induction d with
 | zero =>
  intro i h1 h2
  refine Ev.step (f := fun _ => some true) (fun k => ?_) ?_
  ·
   simp only [laws_zzFits5.l0]
   rw [if_neg (by omega)]
  ·
   rw [List.drop_of_length_le (by omega)]
   exact Ev.now _
 | succ d ih =>
  intro i h1 h2
  have hlt : i < l.length := by omega
  have hi := ih (i + 1) (by omega) (by omega)
  rw [drop_get _ _ hlt, List.all_cons]
  by_cases hs : (l[i]'hlt).f1.size ≤ 2147483647
  ·
   refine Ev.step (f := fun k => laws_zzFits5.l0 k l (l.length : Int) ((i + 1 : Nat) : Int)) (fun k => ?_) ?_
   ·
    simp only [laws_zzFits5.l0]
    rw [if_pos (by omega), if_pos (by omega), if_pos (by omega), rdS_nat l i hlt, laws_zzFits6.f, if_neg (by omega), Option.bind_some, if_pos rfl, wrap_nat i (by omega)]
   ·
    rw [decide_eq_true hs, Bool.true_and]; exact hi
  ·
   refine Ev.step (f := fun _ => some false) (fun k => ?_) ?_
   ·
    simp only [laws_zzFits5.l0]
    rw [if_pos (by omega), if_pos (by omega), if_pos (by omega), rdS_nat l i hlt, laws_zzFits6.f, if_pos (by omega), Option.bind_some, if_neg (by simp)]
   ·
    rw [decide_eq_false hs, Bool.false_and]; exact Ev.now _
def fitB (l : List S51) : Bool := decide (l.length ≤ 2147483647) && l.all (fun d => decide (d.f1.size ≤ 2147483647))
theorem zzFits5_ev (l : List S51) : Ev (fun k => laws_zzFits5.f k l) (fitB l) := by
 unfold laws_zzFits5.f fitB
 by_cases h : l.length ≤ 2147483647
 ·
  rw [decide_eq_true h, Bool.true_and]
  have := zzFits5_loop l h l.length 0 (by omega) (by omega)
  refine Ev.congr (f := fun k => laws_zzFits5.l0 k l (l.length : Int) ((0 : Nat) : Int)) (fun k => if_neg (by omega)) ?_
  simpa using this
 ·
  rw [decide_eq_false h, Bool.false_and]
  exact Ev.congr (f := fun _ => some false) (fun k => if_pos (by omega)) (Ev.now _)

def deedB (d : S51) : Bool := decide (0 ≤ d.f0) && (decide (d.f0 ≤ 1) && (decide (d.f1.size ≤ 80) && (cleanB (bl d.f1) && tameB (toks [] (bl d.f1)))))
theorem deeds_loop (l : List S51) (hl : l.length ≤ 40) (d : Nat) : ∀ i : Nat, i ≤ l.length → l.length - i = d → Ev (fun k => laws_deeds.l0 k l (i : Int)) ((l.drop i).all deedB) := by
 induction d with
 | zero =>
  intro i h1 h2
  refine Ev.step (f := fun _ => some true) (fun k => ?_) ?_
  ·
   simp only [laws_deeds.l0]
   rw [if_neg (by omega)]
  ·
   rw [List.drop_of_length_le (by omega)]
   exact Ev.now _
 | succ d ih =>
  intro i h1 h2
  have hlt : i < l.length := by omega
  have hi := ih (i + 1) (by omega) (by omega)
  rw [drop_get _ _ hlt, List.all_cons]
  obtain ⟨y, hy⟩ : ∃ y, y = l[i]'hlt := ⟨_, rfl⟩
  have hr : rd_T51 l (i : Int) = y := (rdS_nat l i hlt).trans hy.symm
  rw [← hy]
  refine Ev.step (f := fun k => if y.f0 < 0 then some false else (if y.f0 > 1 then some false else (if (y.f1.size : Int) > 80 then some false else ((laws_clean.f k y.f1).bind fun t => (if t = true then ((laws_tame.f k y.f1).bind fun t' => (if t' = true then laws_deeds.l0 k l ((i + 1 : Nat) : Int) else some false)) else some false))))) (fun k => ?_) ?_
  ·
   simp only [laws_deeds.l0]
   rw [if_pos (by omega), if_pos (by omega), hr, wrap_nat i (by omega)]
  ·
   unfold deedB
   by_cases c1 : y.f0 < 0
   ·
    simp only [if_pos c1, decide_eq_false (show ¬ 0 ≤ y.f0 by omega), Bool.false_and]
    exact Ev.now _
   ·
    by_cases c2 : y.f0 > 1
    ·
     simp only [if_neg c1, if_pos c2, decide_eq_false (show ¬ y.f0 ≤ 1 by omega), Bool.false_and, Bool.and_false]
     exact Ev.now _
    ·
     by_cases c3 : (y.f1.size : Int) > 80
     ·
      simp only [if_neg c1, if_neg c2, if_pos c3, decide_eq_false (show ¬ y.f1.size ≤ 80 by omega), Bool.false_and, Bool.and_false]
      exact Ev.now _
     ·
      simp only [if_neg c1, if_neg c2, if_neg c3, decide_eq_true (show 0 ≤ y.f0 by omega), decide_eq_true (show y.f0 ≤ 1 by omega), decide_eq_true (show y.f1.size ≤ 80 by omega), Bool.true_and]
      refine Ev.bind (clean_ev _ (by omega)) ?_
      cases cleanB (bl y.f1) with
      | false => simp only [Bool.false_and]; exact Ev.congr (f := fun _ => some false) (fun k => if_neg (by simp)) (Ev.now _)
      | true =>
       simp only [Bool.true_and, if_true]
       refine Ev.bind (tame_ev _ (by omega)) ?_
       cases tameB (toks [] (bl y.f1)) with
       | false => simp only [Bool.false_and]; exact Ev.congr (f := fun _ => some false) (fun k => if_neg (by simp)) (Ev.now _)
       | true => simp only [Bool.true_and, if_true]; exact hi
def deedsB (l : List S51) : Bool := decide (l.length ≤ 40) && l.all deedB
theorem deeds_ev (l : List S51) : Ev (fun k => laws_deeds.f k l) (deedsB l) := by
 unfold laws_deeds.f deedsB
 by_cases h : l.length ≤ 40
 ·
  rw [decide_eq_true h, Bool.true_and]
  have := deeds_loop l h l.length 0 (by omega) (by omega)
  refine Ev.congr (f := fun k => laws_deeds.l0 k l ((0 : Nat) : Int)) (fun k => if_neg (by omega)) ?_
  simpa using this
 ·
  rw [decide_eq_false h, Bool.false_and]
  exact Ev.congr (f := fun _ => some false) (fun k => if_pos (by omega)) (Ev.now _)

def placeB : List S31 → ByteArray → Int → Nat → Int
 | [], _, _, _ => -1
 | e :: E, s, v, i => if e.f0 = s ∧ e.f1 = v then (i : Int) else placeB E s v (i + 1)
theorem place_loop (E : List S31) (hE : E.length ≤ 2147483648) (s : ByteArray) (v : Int) (d : Nat) : ∀ i : Nat, i ≤ E.length → E.length - i = d → Ev (fun k => spec_place.l0 k E s v (i : Int)) (placeB (E.drop i) s v i) := by
 induction d with
 | zero =>
  intro i h1 h2
  refine Ev.step (f := fun _ => some (-1)) (fun k => ?_) ?_
  ·
   simp only [spec_place.l0]
   rw [if_neg (by omega)]
  ·
   rw [List.drop_of_length_le (by omega)]
   exact Ev.now _
 | succ d ih =>
  intro i h1 h2
  have hlt : i < E.length := by omega
  have hi := ih (i + 1) (by omega) (by omega)
  rw [drop_get _ _ hlt]
  have hl : ∀ a b : ByteArray, a.toList = b.toList ↔ a = b := fun a b => ⟨fun h => by rw [toList_bl, toList_bl] at h; exact bl_inj h, fun h => by rw [h]⟩
  by_cases c1 : (E[i]'hlt).f0 = s
  ·
   by_cases c2 : (E[i]'hlt).f1 = v
   ·
    refine Ev.step (f := fun _ => some (i : Int)) (fun k => ?_) ?_
    ·
     simp only [spec_place.l0]
     rw [if_pos (by omega), if_pos (by omega), rdE_nat E i hlt, if_pos ((hl _ _).2 c1), if_pos c2]
    ·
     rw [placeB, if_pos ⟨c1, c2⟩]; exact Ev.now _
   ·
    refine Ev.step (f := fun k => spec_place.l0 k E s v ((i + 1 : Nat) : Int)) (fun k => ?_) ?_
    ·
     simp only [spec_place.l0]
     rw [if_pos (by omega), if_pos (by omega), rdE_nat E i hlt, if_pos ((hl _ _).2 c1), if_neg c2, wrap_nat i (by omega)]
    ·
     rw [placeB, if_neg (fun h => c2 h.2)]; exact hi
  ·
   refine Ev.step (f := fun k => spec_place.l0 k E s v ((i + 1 : Nat) : Int)) (fun k => ?_) ?_
   ·
    simp only [spec_place.l0]
    rw [if_pos (by omega), if_pos (by omega), rdE_nat E i hlt, if_neg (fun h => c1 ((hl _ _).1 h)), wrap_nat i (by omega)]
   ·
    rw [placeB, if_neg (fun h => c1 h.1)]; exact hi
theorem place_ev (E : List S31) (hE : E.length ≤ 2147483648) (s : ByteArray) (v : Int) : Ev (fun k => spec_place.f k E s v) (placeB E s v 0) := by
 have := place_loop E hE s v E.length 0 (by omega) (by omega)
 simpa [spec_place.f] using this
theorem placeB_spec : ∀ (E : List S31) (s : ByteArray) (v : Int) (i : Nat), (placeB E s v i = -1 ∧ ∀ e ∈ E, ¬ (e.f0 = s ∧ e.f1 = v)) ∨ ∃ j, placeB E s v i = ((i + j : Nat) : Int) ∧ ∃ h : j < E.length, (E[j]'h).f0 = s ∧ (E[j]'h).f1 = v
 | [], s, v, i => .inl ⟨rfl, fun e h => absurd h (by simp)⟩
 | e :: E, s, v, i => by
  rw [placeB]
  by_cases c : e.f0 = s ∧ e.f1 = v
  ·
   rw [if_pos c]
   exact .inr ⟨0, rfl, by simp, c⟩
  ·
   rw [if_neg c]
   rcases placeB_spec E s v (i + 1) with ⟨h1, h2⟩ | ⟨j, h1, h2, h3⟩
   ·
    refine .inl ⟨h1, fun x hx => ?_⟩
    rcases List.mem_cons.1 hx with rfl | hx
    ·
     exact c
    ·
     exact h2 x hx
   ·
    exact .inr ⟨j + 1, by rw [h1]; congr 1; omega, by simp; omega, by simpa using h3⟩

def stepS (E : List S31) (d : S51) : List S31 × Int :=
 if d.f0 = 0 ∧ formedB (toks [] (bl d.f1)) = true then (if placeB E d.f1 d.f2 0 < 0 then (E ++ [⟨d.f1, d.f2⟩], 0) else (E, 0))
 else if d.f0 = 1 ∧ 0 ≤ placeB E d.f1 d.f2 0 then (E.take (placeB E d.f1 d.f2 0).toNat ++ E.drop ((placeB E d.f1 d.f2 0).toNat + 1), 0) else (E, 1)
def runS : List S31 → List S51 → List S31 × List Int
 | E, [] => (E, [])
 | E, d :: l => ((runS (stepS E d).1 l).1, (stepS E d).2 :: (runS (stepS E d).1 l).2)
theorem runS_append : ∀ (a b : List S51) (E : List S31), runS E (a ++ b) = ((runS (runS E a).1 b).1, (runS E a).2 ++ (runS (runS E a).1 b).2)
 | [], b, E => rfl
 | d :: a, b, E => by rw [List.cons_append, runS, runS_append a b]; rfl
theorem stepS_len (E : List S31) (d : S51) : (stepS E d).1.length ≤ E.length + 1 := by
 unfold stepS
 split
 ·
  split
  ·
   simp
  ·
   simp
 ·
  split
  ·
   simp; omega
  ·
   simp
theorem runS_len : ∀ (l : List S51) (E : List S31), (runS E l).1.length ≤ E.length + l.length
 | [], E => by simp [runS]
 | d :: l, E => by
  have h1 := stepS_len E d
  have h2 := runS_len l (stepS E d).1
  rw [runS, List.length_cons]
  show (runS (stepS E d).1 l).1.length ≤ _
  omega
set_option maxHeartbeats 400000 in
theorem List_loop (l : List S51) (hl : l.length ≤ 2147483647) (hz : ∀ d ∈ l, d.f1.size ≤ 2147483647) (d : Nat) : ∀ (i : Nat) (E : List S31) (ks : List Int), E.length ≤ i → ks.length ≤ i → i ≤ l.length → l.length - i = d →
  Ev (fun k => spec_List.l0 k l E ks (i : Int)) ((runS E (l.drop i)).1, ks ++ (runS E (l.drop i)).2) := by
 induction d with
 | zero =>
  intro i E ks hE hk h1 h2
  refine Ev.step (f := fun _ => some (E, ks)) (fun k => ?_) ?_
  ·
   simp only [spec_List.l0]
   rw [if_neg (by omega)]
  ·
   rw [List.drop_of_length_le (by omega), runS, List.append_nil]
   exact Ev.now _
 | succ d ih =>
  intro i E ks hE hk h1 h2
  have hlt : i < l.length := by omega
  obtain ⟨y, hy⟩ : ∃ y, y = l[i]'hlt := ⟨_, rfl⟩
  have hr : rd_T51 l (i : Int) = y := (rdS_nat l i hlt).trans hy.symm
  have hys : y.f1.size ≤ 2147483647 := hz y (by rw [hy]; exact List.getElem_mem hlt)
  have hsl := stepS_len E y
  have hi := ih (i + 1) (stepS E y).1 (ks ++ [(stepS E y).2]) (by omega) (by simp; omega) (by omega) (by omega)
  have hv : ((runS E (l.drop i)).1, ks ++ (runS E (l.drop i)).2) = ((runS (stepS E y).1 (l.drop (i + 1))).1, ks ++ [(stepS E y).2] ++ (runS (stepS E y).1 (l.drop (i + 1))).2) := by
   rw [drop_get _ _ hlt, ← hy, runS, List.append_assoc]
   rfl
  rw [hv]
  have hc := toks_length_le (bl y.f1)
  have hbl := bl_len y.f1
  have HW := Aside0.mk (wrap_nat i (by omega))
  have hE2 : E.length ≤ 2147483648 := by omega
  have PL := place_ev E hE2 y.f1 y.f2
  have HP := Aside0.mk (placeB_spec E y.f1 y.f2 0)
  obtain ⟨p, hpe⟩ : ∃ p, p = placeB E y.f1 y.f2 0 := ⟨_, rfl⟩
  rw [← hpe] at HP PL
  have HPE := Aside0.mk hpe
  clear hpe
  by_cases c0 : y.f0 = 0
  ·
   have c1 : ¬ y.f0 = 1 := by omega
   refine Ev.step (f := fun k => (spec_place.f k E y.f1 y.f2).bind fun t => (spec_Tokens.f k y.f1).bind fun t' => (spec_Formed.f k t').bind fun t'' => spec_List.j1 k l E ks (i : Int) t 1 t'' y.f0 y.f1 y.f2) (fun k => ?_) ?_
   ·
    simp only [spec_List.l0]
    rw [if_pos (by omega), if_pos (by omega), hr]
    simp only [if_pos c0]
   ·
    refine Ev.bind PL (Ev.bind (Tokens_ev _ hys) (Ev.bind (Formed_ev _ (by omega)) ?_))
    by_cases cf : formedB (toks [] (bl y.f1)) = true
    ·
     rw [cf]
     by_cases cp : p < 0
     ·
      have hs : stepS E y = (E ++ [⟨y.f1, y.f2⟩], 0) := by unfold stepS; rw [if_pos ⟨c0, cf⟩, ← HPE.out, if_pos cp]
      rw [hs] at hi ⊢
      refine Ev.step (f := fun k => spec_List.l0 k l (E ++ [⟨y.f1, y.f2⟩]) (ks ++ [0]) ((i + 1 : Nat) : Int)) (fun k => ?_) hi
      simp only [spec_List.j1, if_true, Option.bind_some, List.nil_append, List.length_nil, List.length_cons]
      rw [if_pos cp, if_pos (by omega), if_pos (by omega), if_neg c1, if_pos (by omega), HW.out]
     ·
      have hs : stepS E y = (E, 0) := by unfold stepS; rw [if_pos ⟨c0, cf⟩, ← HPE.out, if_neg cp]
      rw [hs] at hi ⊢
      refine Ev.step (f := fun k => spec_List.l0 k l E (ks ++ [0]) ((i + 1 : Nat) : Int)) (fun k => ?_) hi
      simp only [spec_List.j1, if_true, Option.bind_some, List.nil_append, List.length_nil, List.length_cons]
      rw [if_neg cp, if_neg c1, if_pos (by omega), HW.out]
    ·
     rw [Bool.eq_false_iff.2 cf]
     have hs : stepS E y = (E, 1) := by unfold stepS; rw [if_neg (fun h => cf h.2), if_neg (fun h => c1 h.1)]
     rw [hs] at hi ⊢
     refine Ev.step (f := fun k => spec_List.l0 k l E (ks ++ [1]) ((i + 1 : Nat) : Int)) (fun k => ?_) hi
     simp only [spec_List.j1, Bool.false_eq_true, if_false, Option.bind_some, List.nil_append, List.length_nil, List.length_cons]
     rw [if_neg c1, if_pos (by omega), HW.out]
  ·
   refine Ev.step (f := fun k => (spec_place.f k E y.f1 y.f2).bind fun t => spec_List.j1 k l E ks (i : Int) t 1 false y.f0 y.f1 y.f2) (fun k => ?_) ?_
   ·
    simp only [spec_List.l0]
    rw [if_pos (by omega), if_pos (by omega), hr]
    simp only [if_neg c0]
   ·
    refine Ev.bind PL ?_
    by_cases c1 : y.f0 = 1
    ·
     by_cases cp : 0 ≤ p
     ·
      rcases HP.out with ⟨hp, -⟩ | ⟨j, hp, hj, -⟩
      ·
       omega
      ·
       rw [Nat.zero_add] at hp
       have hs : stepS E y = (E.take j ++ E.drop (j + 1), 0) := by
        unfold stepS
        rw [if_neg (fun h => c0 h.1), ← HPE.out, if_pos ⟨c1, cp⟩, hp, Int.toNat_natCast]
       rw [hs] at hi ⊢
       refine Ev.step (f := fun k => spec_List.l0 k l (E.take j ++ E.drop (j + 1)) (ks ++ [0]) ((i + 1 : Nat) : Int)) (fun k => ?_) hi
       have HWJ := Aside0.mk (wrap_nat j (by omega))
       have htl : (E.take j).length ≤ j := by rw [List.length_take]; omega
       have hdl : (E.drop (j + 1)).length ≤ E.length := by rw [List.length_drop]; omega
       simp only [spec_List.j1, Bool.false_eq_true, if_false, Option.bind_some, List.nil_append, List.length_nil, List.length_cons, hp, HWJ.out, Int.toNat_natCast]
       rw [if_pos c1, if_pos (by omega), if_pos (by omega), if_pos (by omega), if_pos (by omega), if_pos (by omega), if_pos (by omega), if_pos (by omega), if_pos (by omega), HW.out]
     ·
      have hs : stepS E y = (E, 1) := by unfold stepS; rw [if_neg (fun h => c0 h.1), ← HPE.out, if_neg (fun h => cp h.2)]
      rw [hs] at hi ⊢
      refine Ev.step (f := fun k => spec_List.l0 k l E (ks ++ [1]) ((i + 1 : Nat) : Int)) (fun k => ?_) hi
      simp only [spec_List.j1, Bool.false_eq_true, if_false, Option.bind_some, List.nil_append, List.length_nil, List.length_cons]
      rw [if_pos c1, if_neg (by omega), if_pos (by omega), HW.out]
    ·
     have hs : stepS E y = (E, 1) := by unfold stepS; rw [if_neg (fun h => c0 h.1), if_neg (fun h => c1 h.1)]
     rw [hs] at hi ⊢
     refine Ev.step (f := fun k => spec_List.l0 k l E (ks ++ [1]) ((i + 1 : Nat) : Int)) (fun k => ?_) hi
     simp only [spec_List.j1, Bool.false_eq_true, if_false, Option.bind_some, List.nil_append, List.length_nil, List.length_cons]
     rw [if_neg c1, if_pos (by omega), HW.out]
theorem List_ev (l : List S51) (hl : l.length ≤ 2147483647) (hz : ∀ d ∈ l, d.f1.size ≤ 2147483647) : Ev (fun k => spec_List.f k l) (runS [] l) := by
 have := List_loop l hl hz l.length 0 [] [] (by simp) (by simp) (by omega) (by omega)
 simpa [spec_List.f] using this
/-! ### no value twice; what the law asks of a script -/
def twB (E : List S31) : List S51 → Bool
 | [] => false
 | d :: l => (decide (d.f0 = 0) && decide (0 ≤ placeB E d.f1 d.f2 0)) || twB (stepS E d).1 l
theorem runS_take (l : List S51) (i : Nat) (h : i < l.length) : (runS [] (l.take (i + 1))).1 = (stepS (runS [] (l.take i)).1 (l[i]'h)).1 := by
 have e : l.take (i + 1) = l.take i ++ [l[i]'h] := by rw [List.take_add_one, List.getElem?_eq_getElem h]; rfl
 rw [e, runS_append]
 rfl
theorem Twice_loop (l : List S51) (hl : l.length ≤ 2147483647) (hz : ∀ d ∈ l, d.f1.size ≤ 2147483647) (d : Nat) : ∀ i : Nat, i ≤ l.length → l.length - i = d → Ev (fun k => spec_Twice.l0 k l (i : Int)) (twB (runS [] (l.take i)).1 (l.drop i)) := by
 induction d with
 | zero =>
  intro i h1 h2
  refine Ev.step (f := fun _ => some false) (fun k => ?_) ?_
  ·
   simp only [spec_Twice.l0]
   rw [if_neg (by omega)]
  ·
   rw [List.drop_of_length_le (by omega)]
   exact Ev.now _
 | succ d ih =>
  intro i h1 h2
  have hlt : i < l.length := by omega
  have hi := ih (i + 1) (by omega) (by omega)
  rw [runS_take l i hlt] at hi
  rw [drop_get _ _ hlt, twB]
  obtain ⟨y, hy⟩ : ∃ y, y = l[i]'hlt := ⟨_, rfl⟩
  have hr : rd_T51 l (i : Int) = y := (rdS_nat l i hlt).trans hy.symm
  rw [← hy] at hi ⊢
  obtain ⟨E, hE⟩ : ∃ E, E = (runS [] (l.take i)).1 := ⟨_, rfl⟩
  have hEl : E.length ≤ 2147483648 := by
   have := runS_len (l.take i) []
   rw [← hE, List.length_nil, List.length_take] at this
   omega
  rw [← hE] at hi ⊢
  have L := List_ev (l.take i) (by rw [List.length_take]; omega) (fun d hd => hz d (List.mem_of_mem_take hd))
  refine Ev.step (f := fun k => (spec_List.f k (l.take i)).bind fun bt => if y.f0 = 0 then ((spec_place.f k bt.1 y.f1 y.f2).bind fun t => if t ≥ 0 then some true else spec_Twice.l0 k l ((i + 1 : Nat) : Int)) else spec_Twice.l0 k l ((i + 1 : Nat) : Int)) (fun k => ?_) ?_
  ·
   simp only [spec_Twice.l0]
   rw [if_pos (by omega), if_pos (by omega), if_pos (by omega), hr, wrap_nat i (by omega), Int.toNat_natCast]
  ·
   refine Ev.bind L ?_
   rw [← hE]
   by_cases c0 : y.f0 = 0
   ·
    simp only [if_pos c0, decide_eq_true c0, Bool.true_and]
    refine Ev.bind (place_ev E hEl y.f1 y.f2) ?_
    by_cases cp : 0 ≤ placeB E y.f1 y.f2 0
    ·
     rw [decide_eq_true cp, Bool.true_or]
     exact Ev.congr (f := fun _ => some true) (fun k => if_pos cp) (Ev.now _)
    ·
     rw [decide_eq_false cp, Bool.false_or]
     exact Ev.congr (fun k => if_neg cp) hi
   ·
    simp only [if_neg c0, decide_eq_false c0, Bool.false_and, Bool.false_or]
    exact hi
theorem Twice_ev (l : List S51) (hl : l.length ≤ 2147483647) (hz : ∀ d ∈ l, d.f1.size ≤ 2147483647) : Ev (fun k => spec_Twice.f k l) (twB [] l) := by
 have := Twice_loop l hl hz l.length 0 (by omega) (by omega)
 simpa [spec_Twice.f, runS] using this
def putB (d : S51) : Bool := !decide (d.f0 = 0) || sValidB (bl d.f1)
/-! ### the list's own entries are these -/
def entS (e : S31) : Ent := (e.f0, e.f1)
def dS (d : S51) : Dd := (d.f0, d.f1, d.f2)
theorem mem_entS {E : List S31} {s : ByteArray} {v : Int} : (s, v) ∈ E.map entS ↔ ∃ e ∈ E, e.f0 = s ∧ e.f1 = v := by
 rw [List.mem_map]
 constructor
 ·
  rintro ⟨e, he, h⟩
  injection h with h1 h2
  exact ⟨e, he, h1, h2⟩
 ·
  rintro ⟨e, he, h1, h2⟩
  exact ⟨e, he, by unfold entS; rw [h1, h2]⟩
theorem place_mem (E : List S31) (s : ByteArray) (v : Int) : 0 ≤ placeB E s v 0 ↔ (s, v) ∈ E.map entS := by
 rcases placeB_spec E s v 0 with ⟨h1, h2⟩ | ⟨j, h1, h2, h3⟩
 ·
  rw [h1]
  refine ⟨fun h => by omega, fun h => ?_⟩
  obtain ⟨e, he, h⟩ := mem_entS.1 h
  exact absurd h (h2 e he)
 ·
  rw [h1]
  exact ⟨fun _ => mem_entS.2 ⟨_, List.getElem_mem h2, h3⟩, fun _ => by omega⟩
theorem drop_perm (E : List S31) (F : List Ent) (s : ByteArray) (v : Int) (hp : (E.map entS).Perm F) (hn : F.Nodup) (h : 0 ≤ placeB E s v 0) :
  ((E.take (placeB E s v 0).toNat ++ E.drop ((placeB E s v 0).toNat + 1)).map entS).Perm (dropE F (s, v)) := by
 rcases placeB_spec E s v 0 with ⟨h1, h2⟩ | ⟨j, h1, h2, h3⟩
 ·
  omega
 ·
  rw [h1, Nat.zero_add, Int.toNat_natCast]
  have hE : E = E.take j ++ E[j] :: E.drop (j + 1) := by
   conv => lhs; rw [← List.take_append_drop j E, drop_get E j h2]
  have he : entS (E[j]'h2) = (s, v) := by unfold entS; rw [h3.1, h3.2]
  have hm : E.map entS = (E.take j).map entS ++ (s, v) :: (E.drop (j + 1)).map entS := by
   conv => lhs; rw [hE]
   rw [List.map_append, List.map_cons, he]
  have hn' : (E.map entS).Nodup := hp.symm.nodup hn
  rw [hm] at hn'
  obtain ⟨n1, n2, n3⟩ := List.nodup_append.1 hn'
  have n4 := List.nodup_cons.1 n2
  unfold dropE
  refine List.Perm.trans ?_ (hp.filter _)
  rw [hm, List.filter_append, List.filter_cons, if_neg (by simp), List.map_append]
  have f1 : ((E.take j).map entS).filter (fun x => decide (x ≠ (s, v))) = (E.take j).map entS := List.filter_eq_self.2 fun x hx => by
   have := n3 x hx (s, v) List.mem_cons_self
   simp [this]
  have f2 : ((E.drop (j + 1)).map entS).filter (fun x => decide (x ≠ (s, v))) = (E.drop (j + 1)).map entS := List.filter_eq_self.2 fun x hx => by
   have : x ≠ (s, v) := fun e => n4.1 (e ▸ hx)
   simp [this]
  rw [f1, f2]
/-- One deed on both sides. -/
theorem step_both (E : List S31) (F : List Ent) (d : S51) (hp : (E.map entS).Perm F) (hn : F.Nodup) (hf : ∀ e ∈ E, formedB (toks [] (bl e.f0)) = true) (hd : deedB d = true) (ht : (decide (d.f0 = 0) && decide (0 ≤ placeB E d.f1 d.f2 0)) = false) (hb : putB d = true) (hv : okI d.f2) :
  GoodK F (dS d) ∧ ((stepS E d).1.map entS).Perm (stepK F (dS d)).1 ∧ (stepK F (dS d)).1.Nodup ∧ ∀ e ∈ (stepS E d).1, formedB (toks [] (bl e.f0)) = true := by
 unfold deedB at hd
 simp only [Bool.and_eq_true, decide_eq_true_eq] at hd
 obtain ⟨d0, d1, dsz, -, -⟩ := hd
 by_cases c0 : d.f0 = 0
 ·
  rw [decide_eq_true c0, Bool.true_and, decide_eq_false_iff_not] at ht
  unfold putB at hb
  rw [decide_eq_true c0, Bool.not_true, Bool.false_or] at hb
  unfold sValidB at hb
  have hfo : formedB (toks [] (bl d.f1)) = true := (Bool.and_eq_true _ _ ▸ hb).1
  have hnm : (d.f1, d.f2) ∉ F := fun h => ht ((place_mem E _ _).2 (hp.mem_iff.2 h))
  have hs : stepS E d = (E ++ [⟨d.f1, d.f2⟩], 0) := by unfold stepS; rw [if_pos ⟨c0, hfo⟩, if_pos (by omega)]
  have hk : stepK F (dS d) = ((d.f1, d.f2) :: F, 0) := by unfold stepK dS; rw [if_pos c0]
  rw [hs, hk]
  refine ⟨⟨by show d.f1.size ≤ 100000; omega, hv, fun _ => ⟨hfo, hnm⟩⟩, ?_, List.nodup_cons.2 ⟨hnm, hn⟩, fun e he => ?_⟩
  ·
   rw [List.map_append]
   exact List.perm_append_comm.trans (hp.cons _)
  ·
   rcases List.mem_append.1 he with he | he
   ·
    exact hf e he
   ·
    rw [List.mem_singleton.1 he]; exact hfo
 ·
  have c1 : d.f0 = 1 := by omega
  have hg : GoodK F (dS d) := ⟨by show d.f1.size ≤ 100000; omega, hv, fun h => absurd h c0⟩
  by_cases hm : (d.f1, d.f2) ∈ F
  ·
   have hpl := (place_mem E _ _).2 (hp.mem_iff.2 hm)
   have hs : stepS E d = (E.take (placeB E d.f1 d.f2 0).toNat ++ E.drop ((placeB E d.f1 d.f2 0).toNat + 1), 0) := by unfold stepS; rw [if_neg (fun h => c0 h.1), if_pos ⟨c1, hpl⟩]
   have hk : stepK F (dS d) = (dropE F (d.f1, d.f2), 0) := by unfold stepK dS; rw [if_neg c0, if_pos c1, if_pos (inE_iff.2 hm)]
   rw [hs, hk]
   refine ⟨hg, drop_perm E F _ _ hp hn hpl, hn.filter _, fun e he => ?_⟩
   rcases List.mem_append.1 he with he | he
   ·
    exact hf e (List.mem_of_mem_take he)
   ·
    exact hf e (List.mem_of_mem_drop he)
  ·
   have hpl : ¬ 0 ≤ placeB E d.f1 d.f2 0 := fun h => hm (hp.mem_iff.1 ((place_mem E _ _).1 h))
   have hs : stepS E d = (E, 1) := by unfold stepS; rw [if_neg (fun h => c0 h.1), if_neg (fun h => hpl h.2)]
   have hk : stepK F (dS d) = (F, 1) := by unfold stepK dS; rw [if_neg c0, if_pos c1, if_neg (fun h => hm (inE_iff.1 h))]
   rw [hs, hk]
   exact ⟨hg, hp, hn, hf⟩
theorem both : ∀ (l : List S51) (E : List S31) (F : List Ent), (E.map entS).Perm F → F.Nodup → (∀ e ∈ E, formedB (toks [] (bl e.f0)) = true) → l.all deedB = true → twB E l = false → l.all putB = true → (∀ d ∈ l, okI d.f2) →
  GoodsK F (l.map dS) ∧ ((runS E l).1.map entS).Perm (runK F (l.map dS)).1 ∧ (runK F (l.map dS)).1.Nodup ∧ ∀ e ∈ (runS E l).1, formedB (toks [] (bl e.f0)) = true
 | [], E, F, hp, hn, hf, _, _, _, _ => ⟨trivial, hp, hn, hf⟩
 | d :: l, E, F, hp, hn, hf, hd, ht, hb, hv => by
  rw [List.all_cons, Bool.and_eq_true] at hd hb
  rw [twB, Bool.or_eq_false_iff] at ht
  obtain ⟨g, h1, h2, h3⟩ := step_both E F d hp hn hf hd.1 ht.1 hb.1 (hv d List.mem_cons_self)
  obtain ⟨q0, q1, q2, q3⟩ := both l _ _ h1 h2 h3 hd.2 ht.2 hb.2 (fun x hx => hv x (List.mem_cons_of_mem _ hx))
  rw [List.map_cons]
  exact ⟨⟨g, q0⟩, q1, q2, q3⟩
/-! ### matching -/
def mtB : List Bs → List Bs → Bool
 | l, [] => decide (l = [])
 | [], _ :: _ => false
 | t :: l, u :: p => if u = [62] then true else if u = [42] then mtB l p else if u = t then mtB l p else false
def valB (E : List S31) (s : ByteArray) : List Int := (E.filter (fun e => mtB (toks [] (bl s)) (toks [] (bl e.f0)))).map (·.f1)
theorem mkB_eq {a b : Bs} : mkB a = mkB b ↔ a = b := ⟨mkB_inj, fun h => by rw [h]⟩
theorem mr_mtB : ∀ (l p : List Bs), formedB p = true → mr (l.map mkB) (p.map mkB) = mtB l p
 | [], [], _ => rfl
 | [], u :: p, _ => by rw [List.map_nil, List.map_cons, mr, mtB]; simp
 | t :: l, [], _ => by rw [List.map_nil, List.map_cons, mr, mtB]; simp
 | t :: l, u :: p, h => by
  have ih := mr_mtB l p (formedB_tail h)
  have g1 : (mkB u = gts) ↔ u = [62] := mkB_eq (b := [62])
  have g2 : (mkB u = star) ↔ u = [42] := mkB_eq (b := [42])
  have g3 : (mkB u = mkB t) ↔ u = t := mkB_eq
  rw [List.map_cons, List.map_cons, mr, mtB, ih]
  simp only [g1, g2, g3]
  by_cases c1 : u = [62]
  ·
   have hp := formedB_gt h c1
   subst hp
   simp [c1]
  ·
   rw [if_neg c1, decide_eq_false c1, Bool.false_and, Bool.false_or]
   by_cases c2 : u = [42]
   ·
    rw [if_pos c2, decide_eq_true c2, Bool.true_and]
    cases mtB l p <;> simp
   ·
    rw [if_neg c2, decide_eq_false c2, Bool.false_and, Bool.false_or]
    by_cases c3 : u = t
    ·
     rw [if_pos c3, decide_eq_true c3, Bool.true_and]
    ·
     rw [if_neg c3, decide_eq_false c3, Bool.false_and]
theorem sel_val (E : List S31) (s : ByteArray) (hf : ∀ e ∈ E, formedB (toks [] (bl e.f0)) = true) : selE (E.map entS) [] (TK s) = valB E s := by
 unfold selE valB
 rw [List.filter_map, List.map_map]
 have : (E.filter ((fun e : Ent => decide (([] : Path) <+: TK e.1) && mr (TK s) ((TK e.1).drop ([] : Path).length)) ∘ entS)) = E.filter (fun e => mtB (toks [] (bl s)) (toks [] (bl e.f0))) := by
  refine List.filter_congr fun e he => ?_
  show (decide (([] : Path) <+: TK e.f0) && mr (TK s) ((TK e.f0).drop 0)) = _
  rw [decide_eq_true (List.nil_prefix), Bool.true_and, List.drop_zero]
  exact mr_mtB _ _ (hf e he)
 rw [this]
 rfl
theorem sel_perm {E F : List Ent} (h : E.Perm F) (p ts : Path) : (selE E p ts).Perm (selE F p ts) := (h.filter _).map _
/-! ### sorting -/
theorem rdI_nat (x : List Int) (i : Nat) (v : Int) (h : x[i]? = some v) : rd x (i : Int) = v := by
 unfold rd
 rw [Int.toNat_natCast, List.getD_eq_getElem?_getD, h]
 rfl
theorem set_mid (A B : List Int) (a v b : Int) : ((A ++ a :: v :: B).set (A.length + 1) b) = A ++ a :: b :: B := by
 rw [List.set_append_right _ _ (by omega), show A.length + 1 - A.length = 1 by omega]
 rfl
theorem set_fst (A B : List Int) (a b : Int) : ((A ++ a :: B).set A.length b) = A ++ b :: B := by
 rw [List.set_append_right _ _ (by omega), Nat.sub_self]
 rfl
theorem Sorted_inner (C : List Int) (v : Int) (i : Nat) (R : List Int) (n : Nat) : ∀ (A B : List Int), A.length = n → (A ++ B).Pairwise (· ≤ ·) → (∀ b ∈ B, v < b) → A.length + B.length = i → (A ++ v :: (B ++ C)).length ≤ 1000000000 →
  ∃ P : List Int, P.Pairwise (· ≤ ·) ∧ P.Perm (v :: (A ++ B)) ∧ (Ev (fun k => spec_Sorted.l0 k (P ++ C) ((i + 1 : Nat) : Int)) R → Ev (fun k => spec_Sorted.l1 k (A ++ v :: (B ++ C)) (i : Int) (A.length : Int)) R) := by
 induction n with
 | zero =>
  intro A B hA hs hv hi hz
  obtain rfl := List.length_eq_zero_iff.1 hA
  refine ⟨v :: B, List.pairwise_cons.2 ⟨fun b hb => Int.le_of_lt (hv b hb), hs⟩, List.Perm.refl _, fun h => ?_⟩
  have HW := Aside0.mk (wrap_nat i (by simp at hi hz; omega))
  refine Ev.step (f := fun k => spec_Sorted.l0 k (v :: B ++ C) ((i + 1 : Nat) : Int)) (fun k => ?_) h
  simp only [spec_Sorted.l1]
  rw [if_neg (by simp), HW.out]
  rfl
 | succ n ih =>
  intro A B hA hs hv hi hz
  obtain ⟨A', a, rfl⟩ : ∃ A' a, A = A' ++ [a] := by
   rcases List.eq_nil_or_concat A with rfl | ⟨A', a, rfl⟩
   ·
    exact absurd hA (by simp)
   ·
    exact ⟨A', a, by simp⟩
  have hl : (A' ++ [a]).length = A'.length + 1 := by simp
  have hlen : (A' ++ [a] ++ v :: (B ++ C)).length = A'.length + (1 + (1 + (B.length + C.length))) := by simp; omega
  have hz' : A'.length + (1 + (1 + (B.length + C.length))) ≤ 1000000000 := by rw [← hlen]; exact hz
  have hiz : A'.length + 1 + B.length = i := by rw [← hi, hl]
  have r1 : rd (A' ++ [a] ++ v :: (B ++ C)) ((A'.length + 1 : Nat) : Int) = v := rdI_nat _ _ _ (by rw [List.getElem?_append_right (by simp), hl, Nat.sub_self]; rfl)
  have r0 : rd (A' ++ [a] ++ v :: (B ++ C)) (A'.length : Int) = a := rdI_nat _ _ _ (by rw [List.append_assoc, List.getElem?_append_right (Nat.le_refl _), Nat.sub_self]; rfl)
  have HWM := Aside0.mk (show wrap64 (((A'.length + 1 : Nat) : Int) - 1) = (A'.length : Int) from w64 _ _ (by omega) (by omega) (by omega))
  have HW := Aside0.mk (wrap_nat i (by omega))
  by_cases c : v < a
  ·
   have e1 : A' ++ [a] ++ v :: (B ++ C) = A' ++ a :: v :: (B ++ C) := by simp
   have e2 : ((A' ++ a :: v :: (B ++ C)).set (A'.length + 1) a).set A'.length v = A' ++ v :: (a :: B ++ C) := by
    rw [set_mid, set_fst]
    rfl
   obtain ⟨P, p1, p2, p3⟩ := ih A' (a :: B) (by omega) (by simpa using hs) (fun b hb => by
    rcases List.mem_cons.1 hb with rfl | hb
    ·
     exact c
    ·
     exact hv b hb) (by simp; omega) (by simp; omega)
   refine ⟨P, p1, p2.trans (by simp), fun h => ?_⟩
   refine Ev.step (f := fun k => spec_Sorted.l1 k (A' ++ v :: (a :: B ++ C)) (i : Int) (A'.length : Int)) (fun k => ?_) (p3 h)
   rw [hl]
   simp only [spec_Sorted.l1]
   rw [if_pos (by omega), if_pos (by omega), if_pos (by rw [hlen]; omega), HWM.out, if_pos (by omega), if_pos (by rw [hlen]; omega), r1, r0, if_pos c, e1, Int.toNat_natCast, Int.toNat_natCast, e2]
  ·
   have hs' : (A' ++ (a :: B)).Pairwise (· ≤ ·) := by simpa using hs
   obtain ⟨s1, s2, s3⟩ := List.pairwise_append.1 hs'
   obtain ⟨s4, s5⟩ := List.pairwise_cons.1 s2
   refine ⟨A' ++ [a] ++ v :: B, ?_, List.perm_middle, fun h => ?_⟩
   ·
    rw [List.append_assoc]
    refine List.pairwise_append.2 ⟨s1, List.pairwise_cons.2 ⟨fun b hb => ?_, List.pairwise_cons.2 ⟨fun b hb => Int.le_of_lt (hv b hb), s5⟩⟩, fun x hx b hb => ?_⟩
    ·
     rcases List.mem_cons.1 hb with rfl | hb
     ·
      omega
     ·
      exact s4 b hb
    ·
     have hxa := s3 x hx a List.mem_cons_self
     rcases List.mem_cons.1 hb with rfl | hb
     ·
      exact hxa
     ·
      rcases List.mem_cons.1 hb with rfl | hb
      ·
       omega
      ·
       exact s3 x hx b (List.mem_cons_of_mem _ hb)
   ·
    refine Ev.step (f := fun k => spec_Sorted.l0 k (A' ++ [a] ++ v :: B ++ C) ((i + 1 : Nat) : Int)) (fun k => ?_) h
    rw [hl]
    simp only [spec_Sorted.l1]
    rw [if_pos (by omega), if_pos (by omega), if_pos (by rw [hlen]; omega), HWM.out, if_pos (by omega), if_pos (by rw [hlen]; omega), r1, r0, if_neg c, HW.out]
    simp
theorem Sorted_outer : ∀ (C P : List Int), P.Pairwise (· ≤ ·) → (P ++ C).length ≤ 1000000000 → ∃ R : List Int, R.Pairwise (· ≤ ·) ∧ R.Perm (P ++ C) ∧ Ev (fun k => spec_Sorted.l0 k (P ++ C) (P.length : Int)) R
 | [], P, hP, hz => by
  refine ⟨P, hP, by simp, ?_⟩
  rw [List.append_nil]
  refine Ev.step (f := fun _ => some P) (fun k => ?_) (Ev.now _)
  simp only [spec_Sorted.l0]
  rw [if_neg (by omega)]
 | c :: C, P, hP, hz => by
  have hlen : (P ++ c :: C).length = P.length + (C.length + 1) := by simp
  obtain ⟨P', p1, p2, -⟩ := Sorted_inner C c P.length [] P.length P [] rfl (by simpa using hP) (fun b hb => absurd hb (by simp)) (by simp) (by simpa using hz)
  have hpl : P'.length = P.length + 1 := by rw [p2.length_eq]; simp
  obtain ⟨R, q1, q2, q3⟩ := Sorted_outer C P' p1 (by rw [List.length_append, hpl]; omega)
  rw [hpl] at q3
  obtain ⟨P2, r1, r2, r3⟩ := Sorted_inner C c P.length R P.length P [] rfl (by simpa using hP) (fun b hb => absurd hb (by simp)) (by simp) (by simpa using hz)
  have e : P2 = P' := List.Perm.eq_of_pairwise (fun a b _ _ h1 h2 => Int.le_antisymm h1 h2) r1 p1 (r2.trans p2.symm)
  subst e
  refine ⟨R, q1, q2.trans ?_, ?_⟩
  ·
   refine (r2.append_right C).trans ?_
   rw [List.append_nil, List.cons_append]
   exact List.perm_middle.symm
  ·
   refine Ev.step (f := fun k => spec_Sorted.l1 k (P ++ c :: C) (P.length : Int) (P.length : Int)) (fun k => ?_) (r3 q3)
   simp only [spec_Sorted.l0]
   rw [if_pos (by rw [hlen]; omega)]
theorem Sorted_ev (l : List Int) (hz : l.length ≤ 1000000000) : ∃ R : List Int, R.Pairwise (· ≤ ·) ∧ R.Perm l ∧ Ev (fun k => spec_Sorted.f k l) R := by
 have hf : ∀ k, spec_Sorted.f k l = spec_Sorted.l0 k l 1 := fun k => by
  unfold spec_Sorted.f
  rw [Option.bind_some, if_pos (by rw [List.length_nil]; omega), List.nil_append]
 cases l with
 | nil =>
  refine ⟨[], List.Pairwise.nil, List.Perm.refl _, Ev.congr hf (Ev.step (f := fun _ => some []) (fun k => ?_) (Ev.now _))⟩
  simp only [spec_Sorted.l0]
  rw [if_neg (by simp)]
 | cons a l =>
  obtain ⟨R, h1, h2, h3⟩ := Sorted_outer l [a] (by simp) (by simpa using hz)
  exact ⟨R, h1, h2, Ev.congr hf h3⟩
theorem sorted_one {R S : List Int} (h1 : R.Pairwise (· ≤ ·)) (h2 : S.Pairwise (· ≤ ·)) (h : R.Perm S) : R = S := List.Perm.eq_of_pairwise (fun a b _ _ h1 h2 => Int.le_antisymm h1 h2) h1 h2 h
theorem sameInts_loop (x : List Int) (hx : x.length ≤ 1000000000) (d : Nat) : ∀ i : Nat, i ≤ x.length → x.length - i = d → Ev (fun k => laws_sameInts.l0 k x x (i : Int)) true := by
 induction d with
 | zero =>
  intro i h1 h2
  refine Ev.step (f := fun _ => some true) (fun k => ?_) (Ev.now _)
  simp only [laws_sameInts.l0]
  rw [if_neg (by omega)]
 | succ d ih =>
  intro i h1 h2
  refine Ev.step (f := fun k => laws_sameInts.l0 k x x ((i + 1 : Nat) : Int)) (fun k => ?_) (ih (i + 1) (by omega) (by omega))
  simp only [laws_sameInts.l0]
  rw [if_pos (by omega), if_pos (by omega), if_pos (by omega), if_pos trivial, wrap_nat i (by omega)]
theorem sameInts_ev (x : List Int) (hx : x.length ≤ 1000000000) : Ev (fun k => laws_sameInts.f k x x) true := by
 have := sameInts_loop x hx x.length 0 (by omega) (by omega)
 unfold laws_sameInts.f
 exact Ev.congr (f := fun k => laws_sameInts.l0 k x x ((0 : Nat) : Int)) (fun k => if_pos rfl) this
def plainB (s : ByteArray) : Bool := validB (bl s) && (toks [] (bl s)).all notW
theorem plain_ev (s : ByteArray) (hs : s.size ≤ 2147483647) : Ev (fun k => laws_plain.f k s) (plainB s) := by
 unfold laws_plain.f plainB
 refine Ev.bind (valid_ev s hs) ?_
 cases validB (bl s) with
 | false => simp only [Bool.false_and, Bool.false_eq_true, if_false]; exact Ev.now _
 | true =>
  simp only [Bool.true_and, if_true]
  exact Ev.bind (Literal_ev s hs) (Ev.now _)
theorem awake_true : laws_awakeList.f = some true := by decide
/-! ### what the tests of a law give -/
theorem fitB_parts {l : List S51} (h : fitB l = true) : l.length ≤ 2147483647 ∧ ∀ d ∈ l, d.f1.size ≤ 2147483647 := by
 unfold fitB at h
 rw [Bool.and_eq_true, decide_eq_true_eq, List.all_eq_true] at h
 exact ⟨h.1, fun d hd => by simpa using h.2 d hd⟩
theorem plainB_parts {s : ByteArray} (h : plainB s = true) : s.size ≤ 100000 ∧ FullT s ∧ Lit0 (TK s) := by
 unfold plainB at h
 rw [Bool.and_eq_true] at h
 obtain ⟨h1, -, h3, -⟩ := validB_parts h.1
 refine ⟨by rw [← bl_len]; omega, fun t ht => ?_, fun t ht => ?_⟩
 ·
  obtain ⟨x, hx, rfl⟩ := List.mem_map.1 ht
  have := formedB_ne h3 x hx
  rw [size_mkB]
  exact fun h => this (List.length_eq_zero_iff.1 h)
 ·
  obtain ⟨x, hx, rfl⟩ := List.mem_map.1 ht
  have := List.all_eq_true.1 h.2 x hx
  unfold notW at this
  simp only [Bool.not_eq_true', Bool.or_eq_false_iff, beq_eq_false_iff_ne] at this
  exact ⟨fun e => this.1 (mkB_inj (l := x) (m := [42]) e), fun e => this.2 (mkB_inj (l := x) (m := [62]) e)⟩
/-! ### scripts that put alone -/
def distB (seen : List S51) : List S51 → Bool
 | [] => true
 | y :: l => (decide (y.f0 = 0) && sValidB (bl y.f1) && seen.all (fun x => decide (x.f2 ≠ y.f2))) && distB (seen ++ [y]) l
theorem puts_inner (l : List S51) (hl : l.length ≤ 2147483647) (i : Nat) (hlt : i < l.length) (R : Bool) (hR : Ev (fun k => laws_puts.l0 k l ((i + 1 : Nat) : Int)) R) (d : Nat) : ∀ j : Nat, j ≤ i → i - j = d → Ev (fun k => laws_puts.l1 k l (i : Int) (j : Int)) (((l.take i).drop j).all (fun x => decide (x.f2 ≠ (l[i]'hlt).f2)) && R) := by
 have htl : (l.take i).length = i := by rw [List.length_take]; omega
 induction d with
 | zero =>
  intro j h1 h2
  have HW := Aside0.mk (wrap_nat i (by omega))
  refine Ev.step (f := fun k => laws_puts.l0 k l ((i + 1 : Nat) : Int)) (fun k => ?_) ?_
  ·
   simp only [laws_puts.l1]
   rw [if_neg (by omega), HW.out]
  ·
   rw [List.drop_of_length_le (by omega), List.all_nil, Bool.true_and]
   exact hR
 | succ d ih =>
  intro j h1 h2
  have hj : j < l.length := by omega
  have hjt : j < (l.take i).length := by omega
  have hget : (l.take i)[j]'hjt = l[j]'hj := List.getElem_take
  have HW := Aside0.mk (wrap_nat j (by omega))
  rw [drop_get _ j hjt, List.all_cons, hget]
  have r1 := rdS_nat l j hj
  have r2 := rdS_nat l i hlt
  by_cases c : (l[j]'hj).f2 = (l[i]'hlt).f2
  ·
   refine Ev.step (f := fun _ => some false) (fun k => ?_) ?_
   ·
    simp only [laws_puts.l1]
    rw [if_pos (by omega), if_pos (by omega), if_pos (by omega), if_pos (by omega), if_pos (by omega), r1, r2, if_pos c]
   ·
    rw [decide_eq_false (fun h => h c), Bool.false_and, Bool.false_and]
    exact Ev.now _
  ·
   refine Ev.step (f := fun k => laws_puts.l1 k l (i : Int) ((j + 1 : Nat) : Int)) (fun k => ?_) ?_
   ·
    simp only [laws_puts.l1]
    rw [if_pos (by omega), if_pos (by omega), if_pos (by omega), if_pos (by omega), if_pos (by omega), r1, r2, if_neg c, HW.out]
   ·
    rw [decide_eq_true (show (l[j]'hj).f2 ≠ (l[i]'hlt).f2 from c), Bool.true_and]
    exact ih (j + 1) (by omega) (by omega)
theorem puts_loop (l : List S51) (hl : l.length ≤ 2147483647) (hz : ∀ d ∈ l, d.f1.size ≤ 2147483647) (d : Nat) : ∀ i : Nat, i ≤ l.length → l.length - i = d → Ev (fun k => laws_puts.l0 k l (i : Int)) (distB (l.take i) (l.drop i)) := by
 induction d with
 | zero =>
  intro i h1 h2
  refine Ev.step (f := fun _ => some true) (fun k => ?_) ?_
  ·
   simp only [laws_puts.l0]
   rw [if_neg (by omega)]
  ·
   rw [List.drop_of_length_le (by omega)]
   exact Ev.now _
 | succ d ih =>
  intro i h1 h2
  have hlt : i < l.length := by omega
  have hi := ih (i + 1) (by omega) (by omega)
  have e : l.take (i + 1) = l.take i ++ [l[i]'hlt] := by rw [List.take_add_one, List.getElem?_eq_getElem hlt]; rfl
  rw [e] at hi
  have hin := puts_inner l hl i hlt _ hi i 0 (by omega) (by omega)
  rw [List.drop_zero] at hin
  rw [drop_get _ _ hlt, distB]
  obtain ⟨y, hy⟩ : ∃ y, y = l[i]'hlt := ⟨_, rfl⟩
  have hr : rd_T51 l (i : Int) = y := (rdS_nat l i hlt).trans hy.symm
  have hys : y.f1.size ≤ 2147483647 := hz y (by rw [hy]; exact List.getElem_mem hlt)
  rw [← hy] at hin ⊢
  by_cases c0 : y.f0 = 0
  ·
   refine Ev.step (f := fun k => (spec_Valid.f k y.f1).bind fun t => laws_puts.j2 k l (i : Int) (!t)) (fun k => ?_) ?_
   ·
    simp only [laws_puts.l0]
    rw [if_pos (by omega), if_pos (by omega), hr, if_pos c0]
   ·
    refine Ev.bind (SValid_ev _ hys) ?_
    rw [decide_eq_true c0, Bool.true_and]
    cases sValidB (bl y.f1) with
    | true =>
     rw [Bool.true_and]
     refine Ev.step (f := fun k => laws_puts.l1 k l (i : Int) ((0 : Nat) : Int)) (fun k => ?_) hin
     simp only [laws_puts.j2, Bool.not_true, Bool.false_eq_true, if_false]
     rfl
    | false =>
     rw [Bool.false_and, Bool.false_and]
     refine Ev.step (f := fun _ => some false) (fun k => ?_) (Ev.now _)
     simp only [laws_puts.j2, Bool.not_false, if_true]
  ·
   refine Ev.step (f := fun k => laws_puts.j2 k l (i : Int) true) (fun k => ?_) ?_
   ·
    simp only [laws_puts.l0]
    rw [if_pos (by omega), if_pos (by omega), hr, if_neg c0]
   ·
    rw [decide_eq_false c0, Bool.false_and, Bool.false_and, Bool.false_and]
    refine Ev.step (f := fun _ => some false) (fun k => ?_) (Ev.now _)
    simp only [laws_puts.j2, if_true]
def putsB (l : List S51) : Bool := deedsB l && (!twB [] l && distB [] l)
theorem puts_ev (l : List S51) (hl : l.length ≤ 2147483647) (hz : ∀ d ∈ l, d.f1.size ≤ 2147483647) : Ev (fun k => laws_puts.f k l) (putsB l) := by
 have L := puts_loop l hl hz l.length 0 (by omega) (by omega)
 rw [List.drop_zero, List.take_zero] at L
 unfold laws_puts.f putsB
 refine Ev.bind (deeds_ev l) ?_
 cases deedsB l with
 | false =>
  rw [Bool.false_and]
  simp only [Bool.false_eq_true, if_false]
  refine Ev.step (f := fun _ => some false) (fun k => ?_) (Ev.now _)
  simp only [laws_puts.j0, if_true]
 | true =>
  simp only [if_true, Bool.true_and]
  refine Ev.bind (Twice_ev l hl hz) ?_
  cases twB [] l with
  | true =>
   rw [Bool.not_true, Bool.false_and]
   refine Ev.step (f := fun _ => some false) (fun k => ?_) (Ev.now _)
   simp only [laws_puts.j0, if_true]
  | false =>
   rw [Bool.not_false, Bool.true_and]
   refine Ev.step (f := fun k => laws_puts.l0 k l ((0 : Nat) : Int)) (fun k => ?_) L
   simp only [laws_puts.j0, Bool.false_eq_true, if_false]
   rfl
theorem distB_parts : ∀ (l seen : List S51), distB seen l = true → (∀ d ∈ l, d.f0 = 0 ∧ formedB (toks [] (bl d.f1)) = true) ∧ (l.map (·.f2)).Nodup ∧ ∀ x ∈ seen, ∀ d ∈ l, x.f2 ≠ d.f2
 | [], seen, _ => ⟨fun d hd => absurd hd (by simp), List.nodup_nil, fun x _ d hd => absurd hd (by simp)⟩
 | y :: l, seen, h => by
  rw [distB, Bool.and_eq_true, Bool.and_eq_true, Bool.and_eq_true, decide_eq_true_eq] at h
  obtain ⟨⟨⟨h0, h1⟩, h2⟩, h3⟩ := h
  obtain ⟨q1, q2, q3⟩ := distB_parts l _ h3
  unfold sValidB at h1
  rw [Bool.and_eq_true] at h1
  refine ⟨fun d hd => ?_, ?_, fun x hx d hd => ?_⟩
  ·
   rcases List.mem_cons.1 hd with rfl | hd
   ·
    exact ⟨h0, h1.1⟩
   ·
    exact q1 d hd
  ·
   rw [List.map_cons]
   refine List.nodup_cons.2 ⟨fun hm => ?_, q2⟩
   obtain ⟨d, hd, e⟩ := List.mem_map.1 hm
   exact q3 y (by simp) d hd e.symm
  ·
   rcases List.mem_cons.1 hd with rfl | hd
   ·
    have := List.all_eq_true.1 h2 x hx
    simpa using this
   ·
    exact q3 x (List.mem_append_left _ hx) d hd
def entD (d : S51) : Ent := (d.f1, d.f2)
/-- A script of puts alone leaves all that it puts. -/
theorem puts_run : ∀ (l : List S51) (F : List Ent), (∀ d ∈ l, d.f0 = 0 ∧ formedB (toks [] (bl d.f1)) = true) → (l.map (·.f2)).Nodup → (∀ x ∈ F, ∀ d ∈ l, x.2 ≠ d.f2) → (∀ d ∈ l, d.f1.size ≤ 80) → (∀ d ∈ l, okI d.f2) →
  GoodsK F (l.map dS) ∧ (runK F (l.map dS)).1.Perm (l.map entD ++ F)
 | [], F, _, _, _, _, _ => ⟨trivial, List.Perm.refl _⟩
 | d :: l, F, h1, h2, h3, h4, h5 => by
  obtain ⟨c0, cf⟩ := h1 d List.mem_cons_self
  rw [List.map_cons, List.nodup_cons] at h2
  have hk : stepK F (dS d) = ((d.f1, d.f2) :: F, 0) := by unfold stepK dS; rw [if_pos c0]
  have hg : GoodK F (dS d) := ⟨by have := h4 d List.mem_cons_self; show d.f1.size ≤ 100000; omega, h5 d List.mem_cons_self, fun _ => ⟨cf, fun hm => h3 _ hm d List.mem_cons_self rfl⟩⟩
  obtain ⟨q1, q2⟩ := puts_run l ((d.f1, d.f2) :: F) (fun x hx => h1 x (List.mem_cons_of_mem _ hx)) h2.2 (fun x hx y hy => by
   rcases List.mem_cons.1 hx with rfl | hx
   ·
    exact fun e => h2.1 (List.mem_map.2 ⟨y, hy, e.symm⟩)
   ·
    exact h3 x hx y (List.mem_cons_of_mem _ hy)) (fun x hx => h4 x (List.mem_cons_of_mem _ hx)) (fun x hx => h5 x (List.mem_cons_of_mem _ hx))
  rw [List.map_cons, runK, GoodsK, hk]
  refine ⟨⟨hg, q1⟩, q2.trans ?_⟩
  rw [List.map_cons]
  exact List.perm_middle
/-- What the law asks of a script, told of any other order of it. -/
theorem puts_any {l m : List S51} (h : putsB l = true) (hv : ∀ d ∈ l, okI d.f2) (hp : m.Perm l) : m.length ≤ 40 ∧ GoodsK [] (m.map dS) ∧ (runK [] (m.map dS)).1.Perm (l.map entD) := by
 unfold putsB at h
 rw [Bool.and_eq_true, Bool.and_eq_true] at h
 obtain ⟨h1, -, h3⟩ := h
 unfold deedsB at h1
 rw [Bool.and_eq_true, decide_eq_true_eq] at h1
 obtain ⟨q1, q2, -⟩ := distB_parts l [] h3
 obtain ⟨r1, r2⟩ := puts_run m [] (fun d hd => q1 d (hp.mem_iff.1 hd)) ((hp.map _).symm.nodup q2) (fun x hx => absurd hx (by simp)) (fun d hd => by
  have := List.all_eq_true.1 h1.2 d (hp.mem_iff.1 hd)
  unfold deedB at this
  simp only [Bool.and_eq_true, decide_eq_true_eq] at this
  exact this.2.2.1) (fun d hd => hv d (hp.mem_iff.1 hd))
 rw [List.append_nil] at r2
 exact ⟨by rw [hp.length_eq]; exact h1.1, r1, r2.trans (hp.map _)⟩
theorem turned_perm (l : List S51) (i : Nat) : (l.drop i ++ l.take i).Perm l := by
 refine List.perm_append_comm.trans ?_
 rw [List.take_append_drop]
/-! ### the law -/
theorem u64_nat (x : Int) : ∃ u : Nat, IntKind.u64.wrap x = (u : Int) := by
 refine Int.eq_ofNat_of_zero_le ?_
 simp [IntKind.wrap, IntKind.signed, IntKind.bits]
 omega
theorem perm_any {E D : List Ent} {s : ByteArray} (h : E.Perm D) (hL : Lit0 (TK s)) : (mvL E [] (TK s)).Perm (selE D [] (TK s)) := by
 have hne : TK s ≠ [] := fun h => toks_ne [] (bl s) (List.map_eq_nil_iff.1 h)
 exact (mvL_sel _ _ _ hne hL).trans (sel_perm h _ _)
theorem selE_len (D : List Ent) (p ts : Path) : (selE D p ts).length ≤ D.length := by
 unfold selE
 rw [List.length_map]
 exact List.length_filter_le _ _
set_option maxHeartbeats 8000000 in
set_option maxRecDepth 100000 in
theorem turned_law (l0 : List S51) (A0 : Option Addr) (c0 : Nat) (a1 : Int) (a2 : ByteArray) (w : World) (hC : Kd.C k51 w A0 l0.length l0) (hc : l0.length ≤ c0) (hE : GLaid w) (hv : ∀ d ∈ l0, okI d.f2) :
  Calls Tryd.prog 6 #[.slice A0 l0.length c0, .int .i64 a1, .string a2] w fun e w' => e = .returned (.bool true) ∧ Below w.heap.size w w' := by
 have HA := Aside0.mk (And.intro hC (And.intro hc (And.intro hE hv)))
 obtain ⟨kz, hkz⟩ := (zzFits5_ev l0).rounds
 have HZ := Aside0.mk (laws_zzFits5.calls kz A0 c0 l0 _ w hC hc hkz)
 obtain ⟨fit, hfit⟩ : ∃ b, b = fitB l0 := ⟨_, rfl⟩
 rw [← hfit] at HZ
 clear hC hc hE hv hkz
 cases fit with
 | false =>
  clear hfit
  go_enter Tryd.func6, Tryd.ntmps6
  go_wp2_with fail
  refine HZ.out.mono ?_
  rintro en w1 ⟨rfl, hb1⟩
  have HB1 := Aside0.mk hb1
  clear hb1 HZ HA
  go_wp2_with fail
  go_ret
  exact ⟨rfl, HB1.out⟩
 | true =>
  obtain ⟨hl, hz⟩ := fitB_parts hfit.symm
  by_cases hm : 2147483647 < a2.size
  ·
   have n1 := eq_true (show 2147483647 < (a2.size : Int) by omega)
   have n2 := eq_true hm
   have n3 : decide (2147483647 < (a2.size : Int)) = true := decide_eq_true (show 2147483647 < (a2.size : Int) by omega)
   clear hm hfit hl hz
   go_enter Tryd.func6, Tryd.ntmps6
   go_wp2_with fail
   refine HZ.out.mono ?_
   rintro en w1 ⟨rfl, hb1⟩
   have HB1 := Aside0.mk hb1
   clear hb1 HZ HA
   go_wp2_with fail
   go_ret
   exact ⟨rfl, HB1.out⟩
  ·
   have n1 := eq_false (show ¬ 2147483647 < (a2.size : Int) by omega)
   have n2 := eq_false hm
   have n3 : decide (2147483647 < (a2.size : Int)) = false := decide_eq_false (show ¬ 2147483647 < (a2.size : Int) by omega)
   obtain ⟨kl, hkl⟩ := (puts_ev l0 hl hz).rounds
   obtain ⟨kp, hkp⟩ := (plain_ev a2 (by omega)).rounds
   obtain ⟨pu, hpu⟩ : ∃ b, b = putsB l0 := ⟨_, rfl⟩
   rw [← hpu] at hkl
   obtain ⟨pl, hpl⟩ : ∃ b, b = plainB a2 := ⟨_, rfl⟩
   rw [← hpl] at hkp
   have HK := Aside0.mk (And.intro hkl (And.intro hkp (And.intro hpu (And.intro hpl hz))))
   clear hm hfit hl hz hkl hkp hpu hpl
   go_enter Tryd.func6, Tryd.ntmps6
   go_wp2_with fail
   refine HZ.out.mono ?_
   rintro en w1 ⟨rfl, hb1⟩
   have HB1 := Aside0.mk hb1
   have HAW := Aside0.mk (laws_awakeList.calls true w1 awake_true (HA.out.2.2.1.below hb1))
   clear hb1 HZ
   go_wp2_with fail
   refine HAW.out.mono ?_
   rintro en w2 ⟨rfl, hb2⟩
   have HB2 := Aside0.mk (HB1.out.trans (hb2.mono HB1.out.size))
   have HL := Aside0.mk (laws_puts.calls kl A0 c0 l0 pu w2 (Kd.C_below HA.out.1 HB2.out) HA.out.2.1 HK.out.1)
   clear hb2 HAW HB1
   go_wp2_with fail
   refine HL.out.mono ?_
   rintro en w3 ⟨rfl, hb3⟩
   have HB3 := Aside0.mk (HB2.out.trans (hb3.mono HB2.out.size))
   clear hb3 HL HB2
   cases pu with
   | false =>
    clear HK HA
    go_wp2_with fail
    go_ret
    exact ⟨rfl, HB3.out⟩
   | true =>
    have HP := Aside0.mk (laws_plain.calls kp a2 pl w3 HK.out.2.1)
    go_wp2_with fail
    refine HP.out.mono ?_
    rintro en w4 ⟨rfl, hb4⟩
    have HB4 := Aside0.mk (HB3.out.trans (hb4.mono HB3.out.size))
    clear hb4 HP HB3
    cases pl with
    | false =>
     clear HK HA
     go_wp2_with fail
     go_ret
     exact ⟨rfl, HB4.out⟩
    | true =>
     by_cases h0 : l0.length = 0
     ·
      have p1 : ((l0.length : Int) == 0) = true := by rw [h0]; rfl
      have p2 := eq_true h0
      have p3 := eq_true (show (l0.length : Int) = 0 by omega)
      clear h0 HK HA
      go_wp2_with fail
      go_ret
      exact ⟨rfl, HB4.out⟩
     ·
      have p1 : ((l0.length : Int) == 0) = false := beq_eq_false_iff_ne.2 (by omega)
      have p2 := eq_false h0
      have p3 := eq_false (show ¬ (l0.length : Int) = 0 by omega)
      obtain ⟨ps, pf, pL⟩ := plainB_parts HK.out.2.2.2.1.symm
      obtain ⟨l40, hG, hPe⟩ := puts_any HK.out.2.2.1.symm HA.out.2.2.2 (List.Perm.refl l0)
      obtain ⟨u, hu⟩ := u64_nat a1
      have HU := Aside0.mk hu
      clear hu
      obtain ⟨at_, hat⟩ : ∃ n : Nat, n = u % l0.length := ⟨_, rfl⟩
      have hat1 : at_ < l0.length := by rw [hat]; exact Nat.mod_lt _ (by omega)
      have HTM := Aside0.mk (show Int.tmod (u : Int) (l0.length : Int) = (at_ : Int) by
       rw [hat, Int.tmod_eq_emod_of_nonneg (by omega)]
       exact (Int.natCast_emod _ _).symm)
      clear hat
      have HW1 := Aside0.mk (show IntKind.u64.wrap (l0.length : Int) = (l0.length : Int) from Road.wu64 _ _ rfl (by omega) (by omega))
      have HW2 := Aside0.mk (show IntKind.u64.wrap (at_ : Int) = (at_ : Int) from Road.wu64 _ _ rfl (by omega) (by omega))
      have HW3 := Aside0.mk (show IntKind.i64.wrap (at_ : Int) = (at_ : Int) from Road.wi64 _ _ rfl (by omega) (by omega))
      have HW4 := Aside0.mk (show wrap64 (at_ : Int) = (at_ : Int) from Road.w64 _ _ rfl (by omega) (by omega))
      obtain ⟨m, hm⟩ : ∃ m, m = l0.drop at_ ++ l0.take at_ := ⟨_, rfl⟩
      have hmp : m.Perm l0 := by rw [hm]; exact turned_perm l0 at_
      have hml : m.length = l0.length := hmp.length_eq
      obtain ⟨m40, hGm, hPm⟩ := puts_any HK.out.2.2.1.symm HA.out.2.2.2 hmp
      have htf : laws_turned.f l0 (at_ : Int) = some m := by
       unfold laws_turned.f
       have hdl : (l0.drop at_).length ≤ l0.length := by rw [List.length_drop]; omega
       have htl : (l0.take at_).length ≤ l0.length := by rw [List.length_take]; omega
       simp only [Option.bind_some, List.nil_append, List.length_nil, Int.toNat_natCast]
       rw [if_pos (by omega), if_pos (by omega), if_pos (by omega), if_pos (by omega), hm]
      have hlm : (l0.map dS).length = l0.length := List.length_map _
      have hlm2 : (m.map dS).length = m.length := List.length_map _
      have hn1 : (runK [] (l0.map dS)).1.length = l0.length := by rw [hPe.length_eq, List.length_map]
      have hn2 : (runK [] (m.map dS)).1.length = l0.length := by rw [hPm.length_eq, List.length_map]
      have hs1 := perm_any (s := a2) hPe pL
      have hs2 := perm_any (s := a2) hPm pL
      have hsl : (selE (l0.map entD) [] (TK a2)).length ≤ 40 := by
       have := selE_len (l0.map entD) [] (TK a2)
       rw [List.length_map] at this
       omega
      obtain ⟨R, hRs, hRp, hRe⟩ := Sorted_ev (selE (l0.map entD) [] (TK a2)) (by omega)
      have hRl : R.length ≤ 40 := by rw [hRp.length_eq]; omega
      obtain ⟨km, hkm⟩ := (sameInts_ev R (by omega)).rounds
      have HT := Aside0.mk (laws_turned.calls A0 c0 l0 (at_ : Int) m w4 (Kd.C_below HA.out.1 HB4.out) HA.out.2.1 htf)
      have HV := Aside0.mk (And.intro hs1 (And.intro hs2 (And.intro hsl (And.intro hRs (And.intro hRp (And.intro hkm (And.intro hG (And.intro hGm (And.intro l40 (And.intro m40 (And.intro ps (And.intro pf pL))))))))))))
      have HN := Aside0.mk (And.intro hn1 (And.intro hn2 (And.intro hlm (And.intro hlm2 hml))))
      clear ps pf pL l40 hG hPe hat1 hm hmp hml m40 hGm hPm htf hlm hlm2 hn1 hn2 hs1 hs2 hsl hRs hRp hRe hRl hkm h0
      have hu := HU.out
      have htm := HTM.out
      have hwl := HW1.out
      have hwa := HW2.out
      have hwb := HW3.out
      have hwc := HW4.out
      clear HU HTM HW1 HW2 HW3 HW4
      go_wp2_with fail
      refine HT.out.mono ?_
      rintro en w5 ⟨v5, rfl, hR5, hb5⟩
      clear htm hwl hwa hwb hwc hu
      obtain ⟨A5, c5, e5⟩ := Kd.R_slice hR5
      subst e5
      have HB5 := Aside0.mk (HB4.out.trans (hb5.mono HB4.out.size))
      have HM5 := Aside0.mk (Kd.R_reads' hR5)
      have HX := Aside0.mk (kinds_calls (l0.map dS) A0 c0 w5 (impl_ListKinds.tsAt (Kd.C_below HA.out.1 HB5.out)) (by rw [HN.out.2.2.1]; exact HA.out.2.1) (HA.out.2.2.1.below HB5.out) HV.out.2.2.2.2.2.2.1 (by rw [HN.out.2.2.1]; have := HV.out.2.2.2.2.2.2.2.2.1; omega))
      rw [HN.out.1, HN.out.2.2.1] at HX
      clear hR5 hb5 HT HB4
      go_wp2_with fail
      refine HX.out.mono ?_
      rintro en w6 ⟨v6, rfl, hR6, hb6⟩
      have HB6 := Aside0.mk (HB5.out.trans (hb6.mono HB5.out.size))
      have HM6 := Aside0.mk (And.intro HM5.out.2.1 (Kd.C_below HM5.out.2.2 hb6))
      have HY := Aside0.mk (kinds_calls (m.map dS) A5 c5 w6 (impl_ListKinds.tsAt HM6.out.2) (by rw [HN.out.2.2.2.1]; exact HM6.out.1) (HA.out.2.2.1.below HB6.out) HV.out.2.2.2.2.2.2.2.1 (by rw [HN.out.2.2.2.1]; have := HV.out.2.2.2.2.2.2.2.2.2.1; omega))
      rw [HN.out.2.1, HN.out.2.2.2.1] at HY
      clear hR6 hb6 HX HB5 HM5
      go_wp2_with fail
      refine HY.out.mono ?_
      rintro en w7 ⟨v7, rfl, hR7, hb7⟩
      have HB7 := Aside0.mk (HB6.out.trans (hb7.mono HB6.out.size))
      have HM7 := Aside0.mk (And.intro HM6.out.1 (Kd.C_below HM6.out.2 hb7))
      have q1 : ((l0.length : Int) == (l0.length : Int)) = true := beq_self_eq_true _
      have HLM := Aside0.mk (ListMatch_calls (l0.map dS) A0 c0 a2 false w7 (impl_ListKinds.tsAt (Kd.C_below HA.out.1 HB7.out)) (by rw [HN.out.2.2.1]; exact HA.out.2.1) (HA.out.2.2.1.below HB7.out) HV.out.2.2.2.2.2.2.1 (by rw [HN.out.2.2.1]; have := HV.out.2.2.2.2.2.2.2.2.1; omega) HV.out.2.2.2.2.2.2.2.2.2.2.1 HV.out.2.2.2.2.2.2.2.2.2.2.2.1 HV.out.2.2.2.2.2.2.2.2.2.2.2.2)
      rw [HN.out.2.2.1] at HLM
      clear hR7 hb7 HY HB6 HM6
      go_wp2_with fail
      refine HLM.out.mono ?_
      rintro en w8 ⟨v8, ys, rfl, hpy, hR8, hb8⟩
      obtain ⟨A8, c8, e8⟩ := Kd.R_slice hR8
      subst e8
      have hr8 := Kd.R_reads' hR8
      have hpy2 := hpy.trans HV.out.1
      have hyl : ys.length ≤ 40 := by rw [hpy2.length_eq]; exact HV.out.2.2.1
      obtain ⟨R2, h2s, h2p, h2e⟩ := Sorted_ev ys (by omega)
      obtain rfl : R2 = R := sorted_one h2s HV.out.2.2.2.1 (h2p.trans (hpy2.trans HV.out.2.2.2.2.1.symm))
      obtain ⟨k2, hk2⟩ := h2e.rounds
      have HB8 := Aside0.mk (HB7.out.trans (hb8.mono HB7.out.size))
      have HM8 := Aside0.mk (And.intro HM7.out.1 (Kd.C_below HM7.out.2 hb8))
      have HS8 := Aside0.mk (spec_Sorted.calls k2 A8 c8 ys R2 w8 hr8.2.2 hr8.2.1 hk2)
      clear hpy hpy2 hR8 hb8 hr8 hyl h2s h2p h2e hk2 HLM HM7 HB7
      go_wp2_with fail
      refine HS8.out.mono ?_
      rintro en w9 ⟨v9, rfl, hR9, hb9⟩
      have HB9 := Aside0.mk (HB8.out.trans (hb9.mono HB8.out.size))
      have HM9 := Aside0.mk (And.intro HM8.out.1 (Kd.C_below HM8.out.2 hb9))
      have HR9 := Aside0.mk hR9
      have HLN := Aside0.mk (ListMatch_calls (m.map dS) A5 c5 a2 true w9 (impl_ListKinds.tsAt HM9.out.2) (by rw [HN.out.2.2.2.1]; exact HM9.out.1) (HA.out.2.2.1.below HB9.out) HV.out.2.2.2.2.2.2.2.1 (by rw [HN.out.2.2.2.1]; have := HV.out.2.2.2.2.2.2.2.2.2.1; omega) HV.out.2.2.2.2.2.2.2.2.2.2.1 HV.out.2.2.2.2.2.2.2.2.2.2.2.1 HV.out.2.2.2.2.2.2.2.2.2.2.2.2)
      rw [HN.out.2.2.2.1] at HLN
      clear hR9 hb9 HS8 HB8 HM8
      go_wp2_with fail
      refine HLN.out.mono ?_
      rintro en w10 ⟨v10, zs, rfl, hpz, hR10, hb10⟩
      obtain ⟨A10, c10, e10⟩ := Kd.R_slice hR10
      subst e10
      have hr10 := Kd.R_reads' hR10
      have hpz2 := hpz.trans HV.out.2.1
      have hzl : zs.length ≤ 40 := by rw [hpz2.length_eq]; exact HV.out.2.2.1
      obtain ⟨R3, h3s, h3p, h3e⟩ := Sorted_ev zs (by omega)
      obtain rfl : R3 = R2 := sorted_one h3s HV.out.2.2.2.1 (h3p.trans (hpz2.trans HV.out.2.2.2.2.1.symm))
      obtain ⟨k3, hk3⟩ := h3e.rounds
      have HB10 := Aside0.mk (HB9.out.trans (hb10.mono HB9.out.size))
      have HR10 := Aside0.mk (Kd.R_below HR9.out hb10)
      have HS10 := Aside0.mk (spec_Sorted.calls k3 A10 c10 zs R3 w10 hr10.2.2 hr10.2.1 hk3)
      clear hpz hpz2 hR10 hb10 hr10 hzl h3s h3p h3e hk3 HLN HM9 HB9 HR9
      go_wp2_with fail
      refine HS10.out.mono ?_
      rintro en w11 ⟨v11, rfl, hR11, hb11⟩
      have hR9' := Kd.R_below HR10.out hb11
      obtain ⟨A11, c11, e11⟩ := Kd.R_slice hR11
      obtain ⟨A9, c9, e9⟩ := Kd.R_slice hR9'
      subst e11 e9
      have hr11 := Kd.R_reads' hR11
      have hr9 := Kd.R_reads' hR9'
      have HB11 := Aside0.mk (HB10.out.trans (hb11.mono HB10.out.size))
      have HM11 := Aside0.mk (laws_sameInts.calls km A9 c9 R3 A11 c11 R3 true w11 hr9.2.2 hr9.2.1 hr11.2.2 hr11.2.1 HV.out.2.2.2.2.2.1)
      clear hR11 hb11 hR9' hr11 hr9 HS10 HR10 HB10
      go_wp2_with fail
      refine HM11.out.mono ?_
      rintro en w12 ⟨rfl, hb12⟩
      have HB12 := Aside0.mk (HB11.out.trans (hb12.below.mono HB11.out.size))
      clear hb12 HM11 HB11
      go_wp2_with fail
      go_ret
      exact ⟨rfl, HB12.out⟩
def laws_FnListTurned.f (l0 : List (S51)) (a1 : Int) (a2 : ByteArray) : Option Bool := if l0.all (fun d => (Lit.int .i64 d.f2).wf) = true then some true else none
theorem laws_FnListTurned.calls (A0 : Option Addr) (c0 : Nat) (l0 : List (S51)) (a1 : Int) (a2 : ByteArray) (r : Bool) (w : World) (hr0 : Kd.C k51 w A0 l0.length l0) (hc0 : l0.length ≤ c0) (h : laws_FnListTurned.f l0 a1 a2 = some r) (hE : GLaid w) :
  Calls Tryd.prog 6 #[.slice A0 l0.length c0, .int .i64 a1, .string a2] w fun e w' => e = .returned (.bool r) ∧ Below w.heap.size w w' := by
 unfold laws_FnListTurned.f at h
 split at h
 ·
  rename_i hc
  obtain rfl := Option.some.inj h
  exact turned_law l0 A0 c0 a1 a2 w hr0 hc0 hE (fun d hd => List.all_eq_true.1 hc d hd)
 ·
  exact absurd h (by simp)


end Go.Proofs.YtcnbnljlopopkaaDoor.PFnListTurned

