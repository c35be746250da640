/- FnSetState: whatever the acts, the law returns true. -/
import Derived.Test.YtjhdnapgdajllaaDoorPFnSetStater
import Derived.Test.YtjhdnapgdajllaaDoorRoad
namespace Go.Proofs.YtjhdnapgdajllaaDoor.Pure
open Go.RowKit Go.Proofs.YtjhdnapgdajllaaDoor.PFnSetState Go.Proofs.YtjhdnapgdajllaaDoorW.PrintWords Go.Proofs.YtjhdnapgdajllaaDoorW.PrintLast Go.Proofs.YtjhdnapgdajllaaDoor.Road
set_option linter.unusedVariables false
set_option linter.unusedSimpArgs false

open SetW SetSpecW
def okA (a : S34) : Bool := !decide (a.f0 < 0) && (!decide (a.f0 > 1) && !decide (a.f1 ≥ 18446744073709549568))
theorem rd34_at (l : List S34) (i : Nat) (h : i < l.length) : rd_T34 l (i : Int) = l[i] := by
  simp [rd_T34, List.getD_eq_getElem?_getD, List.getElem?_eq_getElem h]
theorem acts_loop (l : List S34) (hl : l.length ≤ 60) (d : Nat) : ∀ i : Nat, i ≤ l.length → l.length - i = d → Ev (fun k => laws_acts.l0 k l (i : Int)) ((l.drop i).all okA) := by
  induction d with
  | zero =>
    intro i h1 h2
    have e : l.drop i = [] := List.drop_of_length_le (by omega)
    rw [e]
    refine Ev.step (f := fun _ => some true) (fun k => ?_) (Ev.now _)
    simp only [laws_acts.l0]
    rw [if_neg (by omega)]
  | succ d ih =>
    intro i h1 h2
    have hi : i < l.length := by omega
    rw [List.drop_eq_getElem_cons hi, List.all_cons]
    have he : (k : Nat) → laws_acts.l0 (k + 1) l (i : Int) = if l[i].f0 < 0 then some false else if l[i].f0 > 1 then some false else if l[i].f1 ≥ 18446744073709549568 then some false else laws_acts.l0 k l ((i + 1 : Nat) : Int) := fun k => by
      simp only [laws_acts.l0]
      rw [if_pos (by omega), if_pos (by omega), rd34_at l i hi, wrap_nat i (by omega)]
    by_cases c1 : l[i].f0 < 0
    · refine Ev.step (f := fun _ => some false) (fun k => by rw [he, if_pos c1]) ?_
      have : okA l[i] = false := by simp [okA, c1]
      rw [this]
      exact Ev.now _
    · by_cases c2 : l[i].f0 > 1
      · refine Ev.step (f := fun _ => some false) (fun k => by rw [he, if_neg c1, if_pos c2]) ?_
        have : okA l[i] = false := by simp [okA, c2]
        rw [this]
        exact Ev.now _
      · by_cases c3 : l[i].f1 ≥ 18446744073709549568
        · refine Ev.step (f := fun _ => some false) (fun k => by rw [he, if_neg c1, if_neg c2, if_pos c3]) ?_
          have : okA l[i] = false := by simp only [okA, c3, decide_true, Bool.not_true, Bool.and_false]
          rw [this]
          exact Ev.now _
        · have : okA l[i] = true := by simp only [okA, c1, c2, c3, decide_false, Bool.not_false, Bool.and_true]
          rw [this, Bool.true_and]
          exact Ev.step (fun k => by rw [he, if_neg c1, if_neg c2, if_neg c3]) (ih (i + 1) (by omega) (by omega))
def actsB (l : List S34) : Bool := decide (l.length ≤ 60) && l.all okA
theorem acts_ev (l : List S34) : Ev (fun k => laws_acts.f k l) (actsB l) := by
  unfold laws_acts.f actsB
  by_cases h : (l.length : Int) > 60
  · simp only [if_pos h]
    rw [decide_eq_false (by omega), Bool.false_and]
    exact Ev.now _
  · simp only [if_neg h]
    rw [decide_eq_true (by omega), Bool.true_and]
    exact acts_loop l (by omega) l.length 0 (by omega) (by omega)
/-- What the guard lets in is formed. -/
theorem okA_ok {l : List S34} (h : l.all okA = true) (hw : ∀ z ∈ l, 0 ≤ z.f1) : l.all (fun a => (a.f0 == 0 || a.f0 == 1) && (decide (0 ≤ a.f1) && decide (a.f1 < (top64 : Int)))) = true := by
  refine List.all_eq_true.2 fun a ha => ?_
  have h1 := List.all_eq_true.1 h a ha
  have h2 := hw a ha
  simp only [okA, Bool.and_eq_true, Bool.not_eq_true', decide_eq_false_iff_not] at h1
  have h3 : a.f1 < (top64 : Int) := by unfold top64; omega
  have h4 : a.f0 = 0 ∨ a.f0 = 1 := by omega
  rcases h4 with e | e <;> simp [e, h2, h3]
theorem awake_eq : laws_awakeSet.f = some true := by
  have e : impl_SetFirst.f [(⟨0, 7⟩ : S34)] 2 = some [7] := by decide
  unfold laws_awakeSet.f
  rw [e]
  decide

theorem u64_of_wf {x : Int} (h : (Lit.int .u64 x).wf = true) : ∃ n : Nat, x = (n : Int) ∧ n < 18446744073709551616 := by
  simp [Lit.wf, IntKind.min, IntKind.max, IntKind.signed, IntKind.bits] at h
  exact ⟨x.toNat, by omega, by omega⟩
theorem wf_u64 {z : Int} (h : (Lit.int .u64 z).wf = true) : 0 ≤ z ∧ z < 18446744073709551616 := by
  obtain ⟨n, e, hn⟩ := u64_of_wf h
  omega

-- SENT: FnSetState: whatever the acts, the law returns true.
open SetStateW
theorem FnSetState : laws_FnSetState.Pure := by
  intro l0 hm hok
  apply Ev.rounds
  unfold laws_FnSetState.f
  by_cases h1 : (l0.length : Int) > 2147483647
  · simp only [if_pos h1]
    exact Ev.now _
  · simp only [if_neg h1]
    refine Ev.bind (acts_ev l0) ?_
    cases hb : actsB l0 with
    | false =>
      simp only [awake_eq]
      exact Ev.now _
    | true =>
      simp only [if_true]
      obtain ⟨hl, ha⟩ := Bool.and_eq_true_iff.1 hb
      have hl := of_decide_eq_true hl
      have hf := okA_ok ha (fun z hz => (wf_u64 (hok z hz).2).1)
      have hlen : (actsL [] (spec_Set.acts l0)).length ≤ 60 := by
        have := actsL_le (spec_Set.acts l0) []
        rw [spec_Set.acts, List.length_map, List.length_nil] at this
        exact Nat.le_trans this (by omega)
      have e1 : spec_Set.f l0 = some (nI (actsL [] (spec_Set.acts l0)), wasL [] (spec_Set.acts l0)) := if_pos ⟨hf, by omega⟩
      have e2 : impl_SetState.f l0 = some ((((actsL [] (spec_Set.acts l0)).head?.getD 0 : Nat) : Int), (((actsL [] (spec_Set.acts l0)).getLast?.getD 0 : Nat) : Int), (((actsL [] (spec_Set.acts l0)).length : Nat) : Int)) := if_pos ⟨hf, by omega⟩
      have e3 : impl_SetEnds.f l0 = some ((((actsL [] (spec_Set.acts l0)).head?.getD 0 : Nat) : Int), (((actsL [] (spec_Set.acts l0)).getLast?.getD 0 : Nat) : Int), ((actsL [] (spec_Set.acts l0)).length == 0), (((actsL [] (spec_Set.acts l0)).length : Nat) : Int)) := if_pos ⟨hf, by omega⟩
      obtain ⟨L, hL⟩ : ∃ L, L = actsL [] (spec_Set.acts l0) := ⟨_, rfl⟩
      rw [← hL] at e1 e2 e3 hlen
      have e4 : spec_Ends.f (nI L) = some (((L.head?.getD 0 : Nat) : Int), ((L.getLast?.getD 0 : Nat) : Int)) := by
        unfold spec_Ends.f
        cases L with
        | nil => rfl
        | cons x xs =>
          have hlp : ((nI (x :: xs)).length : Int) = ((xs.length + 1 : Nat) : Int) := by rw [nI_len]; rfl
          have hw1 : wrap64 (((xs.length + 1 : Nat) : Int) - 1) = (xs.length : Int) := Road.w64 _ _ (by omega) (by omega) (by rw [List.length_cons] at hlen; omega)
          rw [hlp, hw1, if_neg (by omega), if_pos (by omega), if_pos (by omega), if_pos (by omega)]
          have a1 : rd (nI (x :: xs)) 0 = (x : Int) := rfl
          have a2 : rd (nI (x :: xs)) (xs.length : Int) = (((x :: xs).getLast?.getD 0 : Nat) : Int) := by
            simp only [rd, nI, Int.toNat_natCast, List.getD_eq_getElem?_getD, List.getElem?_map, List.getLast?_eq_getElem?, List.length_cons, Nat.add_sub_cancel]
            cases (x :: xs)[xs.length]? <;> rfl
          rw [a1, a2]
          rfl
      have e5 : IntKind.u64.wrap ((nI L).length : Int) = (L.length : Int) := by rw [nI_len]; exact Road.wu64 _ _ rfl (by omega) (by omega)
      have e6 : (((L.length == 0) : Bool) == (((nI L).length : Int) == 0)) = true := by
        rw [nI_len]
        cases L with
        | nil => rfl
        | cons x xs =>
          have : ((((x :: xs).length : Nat) : Int) == 0) = false := by rw [beq_eq_false_iff_ne, List.length_cons]; omega
          rw [this]
          rfl
      have e7 : (L.length : Int) = ((nI L).length : Int) := by rw [nI_len]
      refine Ev.step (f := fun _ => some true) (fun k => ?_) (Ev.now _)
      rw [e1, Option.bind_some, e4, Option.bind_some, e2, Option.bind_some, e3, Option.bind_some]
      simp only
      rw [if_pos trivial, if_pos trivial, if_pos e5.symm, if_pos e6, if_pos e7, awake_eq]
      rfl

end Go.Proofs.YtjhdnapgdajllaaDoor.Pure
