/- FnSetFirst: whatever the acts and the number, the law returns true. -/
import Derived.Test.YtjhdnapgdajllaaDoorPFnSetFirstr
import Derived.Test.YtjhdnapgdajllaaDoorRoad
namespace Go.Proofs.YtjhdnapgdajllaaDoor.Pure
open Go.RowKit Go.Proofs.YtjhdnapgdajllaaDoor.PFnSetFirst Go.Proofs.YtjhdnapgdajllaaDoorW.PrintWords Go.Proofs.YtjhdnapgdajllaaDoorW.PrintLast Go.Proofs.YtjhdnapgdajllaaDoor.Road
set_option linter.unusedVariables false
set_option linter.unusedSimpArgs false

open SetW SetSpecW
def okA (a : S34) : Bool := !decide (a.f0 < 0) && (!decide (a.f0 > 1) && !decide (a.f1 ≥ 18446744073709549568))
theorem rd34_at (l : List S34) (i : Nat) (h : i < l.length) : rd_T34 l (i : Int) = l[i] := by
  simp [rd_T34, List.getD_eq_getElem?_getD, List.getElem?_eq_getElem h]
theorem acts_loop (l : List S34) (hl : l.length ≤ 60) (d : Nat) : ∀ i : Nat, i ≤ l.length → l.length - i = d → Ev (fun k => laws_acts.l0 k l (i : Int)) ((l.drop i).all okA) := by
  induction d with
  | zero =>
    intro i h1 h2
    have e : l.drop i = [] := List.drop_of_length_le (by omega)
    rw [e]
    refine Ev.step (f := fun _ => some true) (fun k => ?_) (Ev.now _)
    simp only [laws_acts.l0]
    rw [if_neg (by omega)]
  | succ d ih =>
    intro i h1 h2
    have hi : i < l.length := by omega
    rw [List.drop_eq_getElem_cons hi, List.all_cons]
    have he : (k : Nat) → laws_acts.l0 (k + 1) l (i : Int) = if l[i].f0 < 0 then some false else if l[i].f0 > 1 then some false else if l[i].f1 ≥ 18446744073709549568 then some false else laws_acts.l0 k l ((i + 1 : Nat) : Int) := fun k => by
      simp only [laws_acts.l0]
      rw [if_pos (by omega), if_pos (by omega), rd34_at l i hi, wrap_nat i (by omega)]
    by_cases c1 : l[i].f0 < 0
    · refine Ev.step (f := fun _ => some false) (fun k => by rw [he, if_pos c1]) ?_
      have : okA l[i] = false := by simp [okA, c1]
      rw [this]
      exact Ev.now _
    · by_cases c2 : l[i].f0 > 1
      · refine Ev.step (f := fun _ => some false) (fun k => by rw [he, if_neg c1, if_pos c2]) ?_
        have : okA l[i] = false := by simp [okA, c2]
        rw [this]
        exact Ev.now _
      · by_cases c3 : l[i].f1 ≥ 18446744073709549568
        · refine Ev.step (f := fun _ => some false) (fun k => by rw [he, if_neg c1, if_neg c2, if_pos c3]) ?_
          have : okA l[i] = false := by simp only [okA, c3, decide_true, Bool.not_true, Bool.and_false]
          rw [this]
          exact Ev.now _
        · have : okA l[i] = true := by simp only [okA, c1, c2, c3, decide_false, Bool.not_false, Bool.and_true]
          rw [this, Bool.true_and]
          exact Ev.step (fun k => by rw [he, if_neg c1, if_neg c2, if_neg c3]) (ih (i + 1) (by omega) (by omega))
def actsB (l : List S34) : Bool := decide (l.length ≤ 60) && l.all okA
theorem acts_ev (l : List S34) : Ev (fun k => laws_acts.f k l) (actsB l) := by
  unfold laws_acts.f actsB
  by_cases h : (l.length : Int) > 60
  · simp only [if_pos h]
    rw [decide_eq_false (by omega), Bool.false_and]
    exact Ev.now _
  · simp only [if_neg h]
    rw [decide_eq_true (by omega), Bool.true_and]
    exact acts_loop l (by omega) l.length 0 (by omega) (by omega)
/-- What the guard lets in is formed. -/
theorem okA_ok {l : List S34} (h : l.all okA = true) (hw : ∀ z ∈ l, 0 ≤ z.f1) : l.all (fun a => (a.f0 == 0 || a.f0 == 1) && (decide (0 ≤ a.f1) && decide (a.f1 < (top64 : Int)))) = true := by
  refine List.all_eq_true.2 fun a ha => ?_
  have h1 := List.all_eq_true.1 h a ha
  have h2 := hw a ha
  simp only [okA, Bool.and_eq_true, Bool.not_eq_true', decide_eq_false_iff_not] at h1
  have h3 : a.f1 < (top64 : Int) := by unfold top64; omega
  have h4 : a.f0 = 0 ∨ a.f0 = 1 := by omega
  rcases h4 with e | e <;> simp [e, h2, h3]
theorem awake_eq : laws_awakeSet.f = some true := by
  have e : impl_SetFirst.f [(⟨0, 7⟩ : S34)] 2 = some [7] := by decide
  unfold laws_awakeSet.f
  rw [e]
  decide
theorem same_loop (a : List Int) (hl : a.length ≤ 100000) (d : Nat) : ∀ i : Nat, i ≤ a.length → a.length - i = d → Ev (fun k => spec_SameSet.l0 k a a (i : Int)) true := by
  induction d with
  | zero =>
    intro i h1 h2
    refine Ev.step (f := fun _ => some true) (fun k => ?_) (Ev.now _)
    simp only [spec_SameSet.l0]
    rw [if_neg (by omega)]
  | succ d ih =>
    intro i h1 h2
    refine Ev.step (f := fun k => spec_SameSet.l0 k a a ((i + 1 : Nat) : Int)) (fun k => ?_) (ih (i + 1) (by omega) (by omega))
    simp only [spec_SameSet.l0]
    rw [if_pos (by omega), if_pos (by omega), if_pos (by omega), if_pos trivial, wrap_nat i (by omega)]
theorem same_ev (a : List Int) (hl : a.length ≤ 100000) : Ev (fun k => spec_SameSet.f k a a) true := by
  have := same_loop a hl a.length 0 (by omega) (by omega)
  unfold spec_SameSet.f
  simpa using this
theorem u64_of_wf {x : Int} (h : (Lit.int .u64 x).wf = true) : ∃ n : Nat, x = (n : Int) ∧ n < 18446744073709551616 := by
  simp [Lit.wf, IntKind.min, IntKind.max, IntKind.signed, IntKind.bits] at h
  exact ⟨x.toNat, by omega, by omega⟩
theorem wf_u64 {z : Int} (h : (Lit.int .u64 z).wf = true) : 0 ≤ z ∧ z < 18446744073709551616 := by
  obtain ⟨n, e, hn⟩ := u64_of_wf h
  omega

-- SENT: FnSetFirst: whatever the acts and the number, the law returns true.
theorem FnSetFirst : laws_FnSetFirst.Pure := by
  intro l0 a1 hm hok hw
  apply Ev.rounds
  unfold laws_FnSetFirst.f
  by_cases h1 : (l0.length : Int) > 2147483647
  · simp only [if_pos h1]
    exact Ev.now _
  · simp only [if_neg h1]
    have awk : ∀ b : S34 → Prop, Ev (fun k => laws_FnSetFirst.j0 k l0 a1 true) true := fun _ => by
      refine Ev.step (f := fun _ => some true) (fun k => ?_) (Ev.now _)
      simp only [laws_FnSetFirst.j0]
      rw [if_pos trivial, awake_eq]
      rfl
    refine Ev.bind (acts_ev l0) ?_
    cases hb : actsB l0 with
    | false => simpa using awk (fun _ => True)
    | true =>
      simp only [if_true]
      by_cases h2 : a1 < 1
      · simp only [if_pos h2]
        exact awk (fun _ => True)
      · simp only [if_neg h2]
        by_cases h3 : a1 > 1000
        · rw [decide_eq_true h3]
          exact awk (fun _ => True)
        · rw [decide_eq_false h3]
          obtain ⟨hl, ha⟩ := Bool.and_eq_true_iff.1 hb
          have hl := of_decide_eq_true hl
          have hf := okA_ok ha (fun z hz => (wf_u64 (hok z hz).2).1)
          have e1 : spec_Set.f l0 = some (nI (actsL [] (spec_Set.acts l0)), wasL [] (spec_Set.acts l0)) := if_pos ⟨hf, by omega⟩
          have e2 : impl_SetFirst.f l0 a1 = some (nI ((actsL [] (spec_Set.acts l0)).take a1.toNat)) := if_pos ⟨hf, by omega, by omega⟩
          have hlen : (actsL [] (spec_Set.acts l0)).length ≤ 60 := by
            have := actsL_le (spec_Set.acts l0) []
            rw [spec_Set.acts, List.length_map, List.length_nil] at this
            exact Nat.le_trans this (by omega)
          obtain ⟨L, hL⟩ : ∃ L, L = actsL [] (spec_Set.acts l0) := ⟨_, rfl⟩
          rw [← hL] at e1 e2 hlen
          have hmn : mn a1 ((nI L).length : Int) = min a1 (L.length : Int) := by rw [nI_len, mn]; rcases Int.le_total a1 (L.length : Int) with h | h <;> (first | (rw [Int.min_eq_left h]; split <;> omega) | (rw [Int.min_eq_right h]; split <;> omega))
          have hcut : nI (L.take a1.toNat) = (nI L).take (mn a1 ((nI L).length : Int)).toNat := by
            rw [hmn, nI, nI, ← List.map_take]
            congr 1
            rcases Int.le_total a1 (L.length : Int) with h | h
            · rw [Int.min_eq_left h]
            · rw [Int.min_eq_right h, Int.toNat_natCast, List.take_of_length_le (by omega), List.take_of_length_le (by omega)]
          have hs := same_ev ((nI L).take (mn a1 ((nI L).length : Int)).toNat) (by rw [List.length_take, nI_len]; omega)
          refine Ev.step (f := fun k => ((spec_SameSet.f k ((nI L).take (mn a1 ((nI L).length : Int)).toNat) ((nI L).take (mn a1 ((nI L).length : Int)).toNat)).bind fun t130 => if t130 = true then some true else some false)) (fun k => ?_) (Ev.bind hs (Ev.now _))
          simp only [laws_FnSetFirst.j0]
          rw [if_neg (by simp), e1, Option.bind_some, e2, Option.bind_some]
          simp only
          rw [if_pos (by rw [hmn]; omega), if_pos (by rw [hmn, nI_len]; omega), hcut, awake_eq]
          rfl

end Go.Proofs.YtjhdnapgdajllaaDoor.Pure
