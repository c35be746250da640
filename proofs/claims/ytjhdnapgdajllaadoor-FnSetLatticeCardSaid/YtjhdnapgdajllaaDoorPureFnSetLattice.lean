/- FnSetLattice: whatever the acts and the number, the law returns true. -/
import Derived.Test.YtjhdnapgdajllaaDoorPFnSetLatticer
import Derived.Test.YtjhdnapgdajllaaDoorRoad
namespace Go.Proofs.YtjhdnapgdajllaaDoor.Pure
open Go.RowKit Go.Proofs.YtjhdnapgdajllaaDoor.PFnSetLattice Go.Proofs.YtjhdnapgdajllaaDoorW.PrintWords Go.Proofs.YtjhdnapgdajllaaDoorW.PrintLast Go.Proofs.YtjhdnapgdajllaaDoor.Road
set_option linter.unusedVariables false
set_option linter.unusedSimpArgs false

open SetW SetSpecW
def okA (a : S34) : Bool := !decide (a.f0 < 0) && (!decide (a.f0 > 1) && !decide (a.f1 ≥ 18446744073709549568))
theorem rd34_at (l : List S34) (i : Nat) (h : i < l.length) : rd_T34 l (i : Int) = l[i] := by
  simp [rd_T34, List.getD_eq_getElem?_getD, List.getElem?_eq_getElem h]
theorem acts_loop (l : List S34) (hl : l.length ≤ 60) (d : Nat) : ∀ i : Nat, i ≤ l.length → l.length - i = d → Ev (fun k => laws_acts.l0 k l (i : Int)) ((l.drop i).all okA) := by
  induction d with
  | zero =>
    intro i h1 h2
    have e : l.drop i = [] := List.drop_of_length_le (by omega)
    rw [e]
    refine Ev.step (f := fun _ => some true) (fun k => ?_) (Ev.now _)
    simp only [laws_acts.l0]
    rw [if_neg (by omega)]
  | succ d ih =>
    intro i h1 h2
    have hi : i < l.length := by omega
    rw [List.drop_eq_getElem_cons hi, List.all_cons]
    have he : (k : Nat) → laws_acts.l0 (k + 1) l (i : Int) = if l[i].f0 < 0 then some false else if l[i].f0 > 1 then some false else if l[i].f1 ≥ 18446744073709549568 then some false else laws_acts.l0 k l ((i + 1 : Nat) : Int) := fun k => by
      simp only [laws_acts.l0]
      rw [if_pos (by omega), if_pos (by omega), rd34_at l i hi, wrap_nat i (by omega)]
    by_cases c1 : l[i].f0 < 0
    · refine Ev.step (f := fun _ => some false) (fun k => by rw [he, if_pos c1]) ?_
      have : okA l[i] = false := by simp [okA, c1]
      rw [this]
      exact Ev.now _
    · by_cases c2 : l[i].f0 > 1
      · refine Ev.step (f := fun _ => some false) (fun k => by rw [he, if_neg c1, if_pos c2]) ?_
        have : okA l[i] = false := by simp [okA, c2]
        rw [this]
        exact Ev.now _
      · by_cases c3 : l[i].f1 ≥ 18446744073709549568
        · refine Ev.step (f := fun _ => some false) (fun k => by rw [he, if_neg c1, if_neg c2, if_pos c3]) ?_
          have : okA l[i] = false := by simp only [okA, c3, decide_true, Bool.not_true, Bool.and_false]
          rw [this]
          exact Ev.now _
        · have : okA l[i] = true := by simp only [okA, c1, c2, c3, decide_false, Bool.not_false, Bool.and_true]
          rw [this, Bool.true_and]
          exact Ev.step (fun k => by rw [he, if_neg c1, if_neg c2, if_neg c3]) (ih (i + 1) (by omega) (by omega))
def actsB (l : List S34) : Bool := decide (l.length ≤ 60) && l.all okA
theorem acts_ev (l : List S34) : Ev (fun k => laws_acts.f k l) (actsB l) := by
  unfold laws_acts.f actsB
  by_cases h : (l.length : Int) > 60
  · simp only [if_pos h]
    rw [decide_eq_false (by omega), Bool.false_and]
    exact Ev.now _
  · simp only [if_neg h]
    rw [decide_eq_true (by omega), Bool.true_and]
    exact acts_loop l (by omega) l.length 0 (by omega) (by omega)
/-- What the guard lets in is formed. -/
theorem okA_ok {l : List S34} (h : l.all okA = true) (hw : ∀ z ∈ l, 0 ≤ z.f1) : l.all (fun a => (a.f0 == 0 || a.f0 == 1) && (decide (0 ≤ a.f1) && decide (a.f1 < (top64 : Int)))) = true := by
  refine List.all_eq_true.2 fun a ha => ?_
  have h1 := List.all_eq_true.1 h a ha
  have h2 := hw a ha
  simp only [okA, Bool.and_eq_true, Bool.not_eq_true', decide_eq_false_iff_not] at h1
  have h3 : a.f1 < (top64 : Int) := by unfold top64; omega
  have h4 : a.f0 = 0 ∨ a.f0 = 1 := by omega
  rcases h4 with e | e <;> simp [e, h2, h3]
theorem awake_eq : laws_awakeSet.f = some true := by
  have e : impl_SetFirst.f [(⟨0, 7⟩ : S34)] 2 = some [7] := by decide
  unfold laws_awakeSet.f
  rw [e]
  decide
theorem same_loop (a : List Int) (hl : a.length ≤ 100000) (d : Nat) : ∀ i : Nat, i ≤ a.length → a.length - i = d → Ev (fun k => spec_SameSet.l0 k a a (i : Int)) true := by
  induction d with
  | zero =>
    intro i h1 h2
    refine Ev.step (f := fun _ => some true) (fun k => ?_) (Ev.now _)
    simp only [spec_SameSet.l0]
    rw [if_neg (by omega)]
  | succ d ih =>
    intro i h1 h2
    refine Ev.step (f := fun k => spec_SameSet.l0 k a a ((i + 1 : Nat) : Int)) (fun k => ?_) (ih (i + 1) (by omega) (by omega))
    simp only [spec_SameSet.l0]
    rw [if_pos (by omega), if_pos (by omega), if_pos (by omega), if_pos trivial, wrap_nat i (by omega)]
theorem same_ev (a : List Int) (hl : a.length ≤ 100000) : Ev (fun k => spec_SameSet.f k a a) true := by
  have := same_loop a hl a.length 0 (by omega) (by omega)
  unfold spec_SameSet.f
  simpa using this
theorem u64_of_wf {x : Int} (h : (Lit.int .u64 x).wf = true) : ∃ n : Nat, x = (n : Int) ∧ n < 18446744073709551616 := by
  simp [Lit.wf, IntKind.min, IntKind.max, IntKind.signed, IntKind.bits] at h
  exact ⟨x.toNat, by omega, by omega⟩
theorem wf_u64 {z : Int} (h : (Lit.int .u64 z).wf = true) : 0 ≤ z ∧ z < 18446744073709551616 := by
  obtain ⟨n, e, hn⟩ := u64_of_wf h
  omega

-- SENT: FnSetLattice: whatever the acts and the number, the law returns true.
open SetUnionW
theorem len60 {l : List S34} (h : l.length ≤ 60) : (actsL [] (impl_SetUnion.acts l)).length ≤ 60 := by
  have := actsL_le (impl_SetUnion.acts l) []
  rw [impl_SetUnion.acts, List.length_map, List.length_nil] at this
  exact Nat.le_trans this (by omega)
theorem at_loop (L : List Nat) (n : Nat) (hL : L.length ≤ 9000) (hs : L.Pairwise (· < ·)) (d : Nat) : ∀ i : Nat, i ≤ L.length → L.length - i = d → (∀ j, j < i → ∀ h : j < L.length, L[j] < n) → ∃ p, Ev (fun k => spec_at.l0 k (nI L) (n : Int) (i : Int)) (p, decide (n ∈ L)) := by
  induction d with
  | zero =>
    intro i h1 h2 h3
    obtain rfl : i = L.length := by omega
    have hn : ¬ n ∈ L := fun hm => by
      obtain ⟨j, hj, e⟩ := List.mem_iff_getElem.1 hm
      have := h3 j hj hj
      omega
    refine ⟨(L.length : Int), Ev.step (f := fun _ => some ((L.length : Int), decide (n ∈ L))) (fun k => ?_) (Ev.now _)⟩
    simp only [spec_at.l0]
    rw [if_neg (by rw [nI_len]; omega), decide_eq_false hn, nI_len]
  | succ d ih =>
    intro i h1 h2 h3
    have hi : i < L.length := by omega
    have hrd : rd (nI L) (i : Int) = (L[i] : Int) := by
      simp [rd, nI, List.getD_eq_getElem?_getD, List.getElem?_map, List.getElem?_eq_getElem hi]
    by_cases c : n ≤ L[i]
    · refine ⟨(i : Int), Ev.step (f := fun _ => some ((i : Int), decide (n ∈ L))) (fun k => ?_) (Ev.now _)⟩
      simp only [spec_at.l0]
      rw [if_pos (by rw [nI_len]; omega), if_pos (by omega), hrd, if_pos (by omega)]
      congr 2
      by_cases e : L[i] = n
      · have : n ∈ L := e ▸ List.getElem_mem hi
        rw [decide_eq_true this, e]
        exact beq_self_eq_true _
      · have hn : ¬ n ∈ L := fun hm => by
          obtain ⟨j, hj, ej⟩ := List.mem_iff_getElem.1 hm
          rcases Nat.lt_trichotomy j i with h | h | h
          · have := h3 j h hj; omega
          · subst h; exact e ej
          · have := List.pairwise_iff_getElem.1 hs i j hi hj h; omega
        rw [decide_eq_false hn, beq_eq_false_iff_ne]
        omega
    · obtain ⟨p, hp⟩ := ih (i + 1) (by omega) (by omega) (fun j hj h => by
        rcases Nat.lt_or_ge j i with h' | h'
        · exact h3 j h' h
        · obtain rfl : j = i := by omega
          omega)
      refine ⟨p, Ev.step (f := fun k => spec_at.l0 k (nI L) (n : Int) ((i + 1 : Nat) : Int)) (fun k => ?_) hp⟩
      simp only [spec_at.l0]
      rw [if_pos (by rw [nI_len]; omega), if_pos (by omega), hrd, if_neg (by omega), wrap_nat i (by omega)]
theorem in_ev (L : List Nat) (n : Nat) (hL : L.length ≤ 9000) (hs : L.Pairwise (· < ·)) : Ev (fun k => spec_In.f k (nI L) (n : Int)) (decide (n ∈ L)) := by
  obtain ⟨p, hp⟩ := at_loop L n hL hs L.length 0 (by omega) (by omega) (fun j hj => absurd hj (by omega))
  unfold spec_In.f spec_at.f
  exact Ev.bind hp (Ev.now _)
theorem FnSetLattice : laws_FnSetLattice.Pure := by
  intro l0 l1 a2 hm0 hok0 hm1 hok1 hw2
  apply Ev.rounds
  have big : Ev (fun k => laws_FnSetLattice.j0 k l0 l1 a2 true) true := Ev.step (f := fun _ => some true) (fun k => by simp only [laws_FnSetLattice.j0]; rw [if_pos trivial]) (Ev.now _)
  have awk : Ev (fun k => laws_FnSetLattice.j1 k l0 l1 a2 true) true := Ev.step (f := fun _ => some true) (fun k => by simp only [laws_FnSetLattice.j1]; rw [if_pos trivial, awake_eq]; rfl) (Ev.now _)
  unfold laws_FnSetLattice.f
  by_cases h1 : (l0.length : Int) > 2147483647
  · simp only [if_pos h1]
    exact big
  · simp only [if_neg h1]
    by_cases h2 : (l1.length : Int) > 2147483647
    · simp only [decide_eq_true h2]
      exact big
    · simp only [decide_eq_false h2]
      refine Ev.step (f := fun k => (laws_acts.f k l0).bind fun t120 => (if t120 = true then ((laws_acts.f k l1).bind fun t121 => (if t121 = true then (laws_FnSetLattice.j1 k l0 l1 a2 (decide (a2 ≥ 18446744073709549568))) else (laws_FnSetLattice.j1 k l0 l1 a2 true))) else (laws_FnSetLattice.j1 k l0 l1 a2 true))) (fun k => by simp only [laws_FnSetLattice.j0]; rw [if_neg (by simp)]) ?_
      refine Ev.bind (acts_ev l0) ?_
      cases hb : actsB l0 with
      | false => simpa using awk
      | true =>
        simp only [if_true]
        refine Ev.bind (acts_ev l1) ?_
        cases hb' : actsB l1 with
        | false => simpa using awk
        | true =>
          simp only [if_true]
          by_cases h3 : a2 ≥ 18446744073709549568
          · rw [decide_eq_true h3]; exact awk
          · rw [decide_eq_false h3]
            obtain ⟨n, rfl, hn⟩ := u64_of_wf hw2
            obtain ⟨hl, ha⟩ := Bool.and_eq_true_iff.1 hb
            have hl := of_decide_eq_true hl
            obtain ⟨hl', ha'⟩ := Bool.and_eq_true_iff.1 hb'
            have hl' := of_decide_eq_true hl'
            have hf := okA_ok ha (fun z hz => (wf_u64 (hok0 z hz).2).1)
            have hf' := okA_ok ha' (fun z hz => (wf_u64 (hok1 z hz).2).1)
            have hx := len60 hl
            have hy := len60 hl'
            have sorted : ∀ l : List S34, l.all (fun a => (a.f0 == 0 || a.f0 == 1) && (decide (0 ≤ a.f1) && decide (a.f1 < (top64 : Int)))) = true → (actsL [] (impl_SetUnion.acts l)).Pairwise (· < ·) := fun l h => (actsT_rep (impl_SetUnion.acts l) Rep.nil (fun a ha => by
              obtain ⟨b, hb', rfl⟩ := List.mem_map.1 ha
              have := List.all_eq_true.1 h b hb'
              simp only [Bool.and_eq_true, decide_eq_true_eq] at this
              exact this.2.2)).sorted
            have sx := sorted l0 hf
            have sy := sorted l1 hf'
            have e1 : impl_SetUnion.f l0 l1 false = some (nI (unL (actsL [] (impl_SetUnion.acts l0)) (actsL [] (impl_SetUnion.acts l1)))) := if_pos ⟨hf, hf', by omega⟩
            have e2 : impl_SetUnion.f l1 l0 true = some (nI (unL (actsL [] (impl_SetUnion.acts l1)) (actsL [] (impl_SetUnion.acts l0)))) := if_pos ⟨hf', hf, by omega⟩
            have e3 : impl_SetUnion.f l0 l0 true = some (nI (unL (actsL [] (impl_SetUnion.acts l0)) (actsL [] (impl_SetUnion.acts l0)))) := if_pos ⟨hf, hf, by omega⟩
            have e4 : impl_SetUnion.f l0 [] false = some (nI (unL (actsL [] (impl_SetUnion.acts l0)) [])) := if_pos ⟨hf, rfl, by rw [List.length_nil]; omega⟩
            have e5 : impl_SetFirst.f l0 1000 = some (nI ((actsL [] (impl_SetUnion.acts l0)).take 1000)) := if_pos ⟨hf, by omega, by omega⟩
            have e6 : impl_SetExists.f l0 (n : Int) = some (decide (n ∈ actsL [] (impl_SetUnion.acts l0))) := by
              have : impl_SetExists.f l0 (n : Int) = some (decide ((n : Int).toNat ∈ actsL [] (impl_SetUnion.acts l0))) := if_pos ⟨hf, by omega, by omega, by unfold top64; omega⟩
              rw [this, Int.toNat_natCast]
            have e7 : impl_SetExists.f l1 (n : Int) = some (decide (n ∈ actsL [] (impl_SetUnion.acts l1))) := by
              have : impl_SetExists.f l1 (n : Int) = some (decide ((n : Int).toNat ∈ actsL [] (impl_SetUnion.acts l1))) := if_pos ⟨hf', by omega, by omega, by unfold top64; omega⟩
              rw [this, Int.toNat_natCast]
            obtain ⟨X, hX⟩ : ∃ X, X = actsL [] (impl_SetUnion.acts l0) := ⟨_, rfl⟩
            obtain ⟨Y, hY⟩ : ∃ Y, Y = actsL [] (impl_SetUnion.acts l1) := ⟨_, rfl⟩
            rw [← hX] at e1 e2 e3 e4 e5 e6 hx sx
            rw [← hY] at e1 e2 e7 hy sy
            rw [unL_comm sy sx] at e2
            have e3' : unL X X = X := sorted_ext _ _ (unL_sorted X X sx) sx (fun x => by rw [mem_unL]; exact or_self_iff)
            rw [e3'] at e3
            rw [show unL X [] = X from rfl] at e4
            rw [List.take_of_length_le (by omega)] at e5
            have e5' : laws_numbers.f l0 = some (nI X) := by unfold laws_numbers.f; rw [e5]; rfl
            have hle := unL_le Y X
            have su := unL_sorted Y X sx
            have hmem : ∀ z, z ∈ unL X Y ↔ z ∈ X ∨ z ∈ Y := fun z => mem_unL Y X z
            obtain ⟨U, hU⟩ : ∃ U, U = unL X Y := ⟨_, rfl⟩
            rw [← hU] at e1 e2 hle su hmem
            have fin : Ev (fun k => laws_FnSetLattice.j2 k l0 l1 (n : Int) (nI U) false) true := by
              refine Ev.step (f := fun k => (spec_In.f k (nI U) (n : Int)).bind fun t144 => ((some (decide (n ∈ X))).bind fun t145 => (if t145 = true then (if (t144 == true) = true then (some true) else (some false)) else ((some (decide (n ∈ Y))).bind fun t147 => (if (t144 == t147) = true then (some true) else (some false)))))) (fun k => ?_) ?_
              · simp only [laws_FnSetLattice.j2]
                rw [if_neg (by simp), e6, e7, awake_eq]
                rfl
              · refine Ev.bind (in_ev U n (by omega) su) ?_
                simp only [Option.bind_some]
                by_cases c1 : n ∈ X
                · rw [decide_eq_true c1, decide_eq_true ((hmem n).2 (.inl c1))]
                  exact Ev.now _
                · rw [decide_eq_false c1]
                  by_cases c2 : n ∈ Y
                  · rw [decide_eq_true c2, decide_eq_true ((hmem n).2 (.inr c2))]
                    exact Ev.now _
                  · rw [decide_eq_false c2, decide_eq_false (fun h => ((hmem n).1 h).elim c1 c2)]
                    exact Ev.now _
            refine Ev.step (f := fun k => (spec_SameSet.f k (nI U) (nI U)).bind fun t129 => (if t129 = true then ((spec_SameSet.f k (nI X) (nI X)).bind fun t136 => (if t136 = true then ((spec_SameSet.f k (nI X) (nI X)).bind fun t143 => (laws_FnSetLattice.j2 k l0 l1 (n : Int) (nI U) (!t143))) else (laws_FnSetLattice.j2 k l0 l1 (n : Int) (nI U) true))) else (laws_FnSetLattice.j2 k l0 l1 (n : Int) (nI U) true))) (fun k => ?_) ?_
            · simp only [laws_FnSetLattice.j1]
              rw [if_neg (by simp), e1, Option.bind_some, e2, Option.bind_some, e3, Option.bind_some, e5', Option.bind_some, e4, Option.bind_some]
              rfl
            · refine Ev.bind (same_ev _ (by rw [nI_len]; omega)) ?_
              simp only [if_true]
              refine Ev.bind (same_ev _ (by rw [nI_len]; omega)) ?_
              simp only [if_true]
              refine Ev.bind (same_ev _ (by rw [nI_len]; omega)) ?_
              exact fin

end Go.Proofs.YtjhdnapgdajllaaDoor.Pure
