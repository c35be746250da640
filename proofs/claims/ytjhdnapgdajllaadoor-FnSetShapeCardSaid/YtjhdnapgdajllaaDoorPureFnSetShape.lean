/- FnSetShape: whatever the acts, the law returns true. -/
import Derived.Test.YtjhdnapgdajllaaDoorPFnSetShaper
import Derived.Test.YtjhdnapgdajllaaDoorRoad
namespace Go.Proofs.YtjhdnapgdajllaaDoor.Pure
open Go.RowKit Go.Proofs.YtjhdnapgdajllaaDoor.PFnSetShape Go.Proofs.YtjhdnapgdajllaaDoorW.PrintWords Go.Proofs.YtjhdnapgdajllaaDoorW.PrintLast Go.Proofs.YtjhdnapgdajllaaDoor.Road
set_option linter.unusedVariables false
set_option linter.unusedSimpArgs false

open SetW SetSpecW
def okA (a : S34) : Bool := !decide (a.f0 < 0) && (!decide (a.f0 > 1) && !decide (a.f1 ≥ 18446744073709549568))
theorem rd34_at (l : List S34) (i : Nat) (h : i < l.length) : rd_T34 l (i : Int) = l[i] := by
  simp [rd_T34, List.getD_eq_getElem?_getD, List.getElem?_eq_getElem h]
theorem acts_loop (l : List S34) (hl : l.length ≤ 60) (d : Nat) : ∀ i : Nat, i ≤ l.length → l.length - i = d → Ev (fun k => laws_acts.l0 k l (i : Int)) ((l.drop i).all okA) := by
  induction d with
  | zero =>
    intro i h1 h2
    have e : l.drop i = [] := List.drop_of_length_le (by omega)
    rw [e]
    refine Ev.step (f := fun _ => some true) (fun k => ?_) (Ev.now _)
    simp only [laws_acts.l0]
    rw [if_neg (by omega)]
  | succ d ih =>
    intro i h1 h2
    have hi : i < l.length := by omega
    rw [List.drop_eq_getElem_cons hi, List.all_cons]
    have he : (k : Nat) → laws_acts.l0 (k + 1) l (i : Int) = if l[i].f0 < 0 then some false else if l[i].f0 > 1 then some false else if l[i].f1 ≥ 18446744073709549568 then some false else laws_acts.l0 k l ((i + 1 : Nat) : Int) := fun k => by
      simp only [laws_acts.l0]
      rw [if_pos (by omega), if_pos (by omega), rd34_at l i hi, wrap_nat i (by omega)]
    by_cases c1 : l[i].f0 < 0
    · refine Ev.step (f := fun _ => some false) (fun k => by rw [he, if_pos c1]) ?_
      have : okA l[i] = false := by simp [okA, c1]
      rw [this]
      exact Ev.now _
    · by_cases c2 : l[i].f0 > 1
      · refine Ev.step (f := fun _ => some false) (fun k => by rw [he, if_neg c1, if_pos c2]) ?_
        have : okA l[i] = false := by simp [okA, c2]
        rw [this]
        exact Ev.now _
      · by_cases c3 : l[i].f1 ≥ 18446744073709549568
        · refine Ev.step (f := fun _ => some false) (fun k => by rw [he, if_neg c1, if_neg c2, if_pos c3]) ?_
          have : okA l[i] = false := by simp only [okA, c3, decide_true, Bool.not_true, Bool.and_false]
          rw [this]
          exact Ev.now _
        · have : okA l[i] = true := by simp only [okA, c1, c2, c3, decide_false, Bool.not_false, Bool.and_true]
          rw [this, Bool.true_and]
          exact Ev.step (fun k => by rw [he, if_neg c1, if_neg c2, if_neg c3]) (ih (i + 1) (by omega) (by omega))
def actsB (l : List S34) : Bool := decide (l.length ≤ 60) && l.all okA
theorem acts_ev (l : List S34) : Ev (fun k => laws_acts.f k l) (actsB l) := by
  unfold laws_acts.f actsB
  by_cases h : (l.length : Int) > 60
  · simp only [if_pos h]
    rw [decide_eq_false (by omega), Bool.false_and]
    exact Ev.now _
  · simp only [if_neg h]
    rw [decide_eq_true (by omega), Bool.true_and]
    exact acts_loop l (by omega) l.length 0 (by omega) (by omega)
/-- What the guard lets in is formed. -/
theorem okA_ok {l : List S34} (h : l.all okA = true) (hw : ∀ z ∈ l, 0 ≤ z.f1) : l.all (fun a => (a.f0 == 0 || a.f0 == 1) && (decide (0 ≤ a.f1) && decide (a.f1 < (top64 : Int)))) = true := by
  refine List.all_eq_true.2 fun a ha => ?_
  have h1 := List.all_eq_true.1 h a ha
  have h2 := hw a ha
  simp only [okA, Bool.and_eq_true, Bool.not_eq_true', decide_eq_false_iff_not] at h1
  have h3 : a.f1 < (top64 : Int) := by unfold top64; omega
  have h4 : a.f0 = 0 ∨ a.f0 = 1 := by omega
  rcases h4 with e | e <;> simp [e, h2, h3]
theorem awake_eq : laws_awakeSet.f = some true := by
  have e : impl_SetFirst.f [(⟨0, 7⟩ : S34)] 2 = some [7] := by decide
  unfold laws_awakeSet.f
  rw [e]
  decide

theorem u64_of_wf {x : Int} (h : (Lit.int .u64 x).wf = true) : ∃ n : Nat, x = (n : Int) ∧ n < 18446744073709551616 := by
  simp [Lit.wf, IntKind.min, IntKind.max, IntKind.signed, IntKind.bits] at h
  exact ⟨x.toNat, by omega, by omega⟩
theorem wf_u64 {z : Int} (h : (Lit.int .u64 z).wf = true) : 0 ≤ z ∧ z < 18446744073709551616 := by
  obtain ⟨n, e, hn⟩ := u64_of_wf h
  omega

-- SENT: FnSetShape: whatever the acts, the law returns true.
open SetShapeW
theorem rep_zero {t : Tr} {L : List Nat} (h : Rep t L) : t.sz = 0 ↔ L.length = 0 := by
  constructor
  · intro e
    cases t with
    | nil => rw [← h.nums]; rfl
    | node g b bs l r k => rw [Tr.sz] at e; omega
  · intro e
    have := h.sz
    omega
theorem shape_facts {t : Tr} {L : List Nat} (h : Rep t L) (hb : t.bal) (hl : L.length ≤ 60) :
    0 ≤ lhT t ∧ 0 ≤ rhT t ∧ lhT t ≤ 40 ∧ rhT t ≤ 40 ∧ lhT t - rhT t ≤ 1 ∧ rhT t - lhT t ≤ 1 ∧ (t.sz ≠ 0 → ∃ m : Nat, (m : Int) = 1 + SetW.mx (lhT t) (rhT t) ∧ leastN m ≤ t.sz ∧ m ≤ 8) := by
  cases t with
  | nil => exact ⟨by decide, by decide, by decide, by decide, by decide, by decide, fun e => absurd rfl e⟩
  | node g b bs l r k =>
    have hs := least_sz _ h.good hb
    have hz := h.sz
    obtain ⟨e, gl, gr⟩ := h.good
    obtain ⟨⟨d1, d2⟩, _, _⟩ := hb
    have nl := ht_nonneg l gl
    have nr := ht_nonneg r gr
    rw [mH_mx] at e
    have sp := mx_spec l.ht r.ht
    rw [ht_nd] at hs
    have h9 : k.toNat ≤ 8 := by
      rcases Nat.lt_or_ge k.toNat 9 with c | c
      · omega
      · have := leastN_mono c
        rw [show leastN 9 = 88 by decide] at this
        omega
    rw [show lhT (.node g b bs l r k) = l.ht from rfl, show rhT (.node g b bs l r k) = r.ht from rfl]
    exact ⟨nl, nr, by omega, by omega, d1, d2, fun _ => ⟨k.toNat, by omega, hs, h9⟩⟩
theorem leastN_9 {i : Nat} (h : i ≤ 9) : leastN i ≤ 88 := by
  have := leastN_mono h
  rwa [show leastN 9 = 88 by decide] at this
theorem least_loop (m : Nat) (hm : m ≤ 8) (d : Nat) : ∀ i : Nat, i ≤ m → m - i = d → Ev (fun k => laws_least.l0 k (m : Int) (leastN i : Nat) (leastN (i + 1) : Nat) (i : Int)) (leastN m : Nat) := by
  induction d with
  | zero =>
    intro i h1 h2
    obtain rfl : i = m := by omega
    refine Ev.step (f := fun _ => some ((leastN i : Nat) : Int)) (fun k => ?_) (Ev.now _)
    simp only [laws_least.l0]
    rw [if_neg (by omega)]
  | succ d ih =>
    intro i h1 h2
    refine Ev.step (f := fun k => laws_least.l0 k (m : Int) (leastN (i + 1) : Nat) (leastN (i + 1 + 1) : Nat) ((i + 1 : Nat) : Int)) (fun k => ?_) (ih (i + 1) (by omega) (by omega))
    simp only [laws_least.l0]
    have b1 := leastN_9 (show i ≤ 9 by omega)
    have b2 := leastN_9 (show i + 1 ≤ 9 by omega)
    have e1 : wrap64 (((leastN i : Nat) : Int) + ((leastN (i + 1) : Nat) : Int)) = ((leastN i + leastN (i + 1) : Nat) : Int) := by
      rw [← Int.natCast_add]; exact Road.w64 _ _ rfl (by omega) (by omega)
    rw [if_pos (by omega), e1, wrap_nat _ (by omega), wrap_nat i (by omega)]
    rfl
theorem least_ev (m : Nat) (hm : m ≤ 8) : Ev (fun k => laws_least.f k (m : Int)) (leastN m : Nat) := least_loop m hm m 0 (by omega) (by omega)
theorem FnSetShape : laws_FnSetShape.Pure := by
  intro l0 hm hok
  apply Ev.rounds
  unfold laws_FnSetShape.f
  by_cases h1 : (l0.length : Int) > 2147483647
  · simp only [if_pos h1]
    exact Ev.now _
  · simp only [if_neg h1]
    have awk : Ev (fun _ => (laws_awakeSet.f).bind fun t => some t) true := by
      rw [awake_eq]
      exact Ev.now _
    refine Ev.bind (acts_ev l0) ?_
    cases hb : actsB l0 with
    | false => simpa using awk
    | true =>
      simp only [if_true]
      obtain ⟨hl, ha⟩ := Bool.and_eq_true_iff.1 hb
      have hl := of_decide_eq_true hl
      have hf := okA_ok ha (fun z hz => (wf_u64 (hok z hz).2).1)
      have loop : ∀ d i : Nat, i ≤ l0.length → l0.length - i = d → (∀ j, j < i → ∀ h : j < l0.length, l0[j].f0 = 0) → Ev (fun k => laws_FnSetShape.l0 k l0 (i : Int)) true := by
        intro d
        induction d with
        | zero =>
          intro i hi1 hi2 hz
          obtain rfl : i = l0.length := by omega
          have hz0 : ∀ a ∈ l0, a.f0 = 0 := fun a ha' => by
            obtain ⟨j, hj, rfl⟩ := List.mem_iff_getElem.1 ha'
            exact hz j hj hj
          have e1 : spec_Set.f l0 = some (nI (actsL [] (spec_Set.acts l0)), wasL [] (spec_Set.acts l0)) := if_pos ⟨hf, by omega⟩
          have e2 : impl_SetShape.f l0 = some (lhT (actsT .nil (spec_Set.acts l0)), rhT (actsT .nil (spec_Set.acts l0)), (((actsT .nil (spec_Set.acts l0)).sz : Nat) : Int)) := if_pos ⟨hf, by omega⟩
          have hF : ∀ a ∈ spec_Set.acts l0, a.1 = 0 ∧ a.2 < (top64 : Int) := by
            intro a ha'
            obtain ⟨b, hb', rfl⟩ := List.mem_map.1 ha'
            refine ⟨hz0 b hb', ?_⟩
            have := List.all_eq_true.1 hf b hb'
            simp only [Bool.and_eq_true, decide_eq_true_eq] at this
            exact this.2.2
          have hr := actsT_rep (spec_Set.acts l0) Rep.nil (fun a h => (hF a h).2)
          have hbal := actsT_bal (spec_Set.acts l0) Rep.nil trivial hF
          have hlen : (actsL [] (spec_Set.acts l0)).length ≤ 60 := by
            have := actsL_le (spec_Set.acts l0) []
            rw [spec_Set.acts, List.length_map, List.length_nil] at this
            exact Nat.le_trans this (by omega)
          obtain ⟨L, hL⟩ : ∃ L, L = actsL [] (spec_Set.acts l0) := ⟨_, rfl⟩
          obtain ⟨t, ht⟩ : ∃ t, t = actsT .nil (spec_Set.acts l0) := ⟨_, rfl⟩
          rw [← hL] at e1 hr hlen
          rw [← ht] at e2 hr hbal
          obtain ⟨s1, s2, s3, s4, s5, s6, s7⟩ := shape_facts hr hbal hlen
          have s8 := hr.sz
          have s9 := rep_zero hr
          have q : ((((t.sz : Nat) : Int) == 0) != (((nI L).length : Int) == 0)) = false := by
            rw [nI_len]
            by_cases c : t.sz = 0
            · rw [c, s9.1 c]; rfl
            · have c2 : ¬ L.length = 0 := fun e => c (s9.2 e)
              have x1 : (((t.sz : Nat) : Int) == 0) = false := by rw [beq_eq_false_iff_ne]; omega
              have x2 : (((L.length : Nat) : Int) == 0) = false := by rw [beq_eq_false_iff_ne]; omega
              rw [x1, x2]; rfl
          refine Ev.step (f := fun k => laws_FnSetShape.j1 k (lhT t) (rhT t) (t.sz : Nat) false) (fun k => ?_) ?_
          · simp only [laws_FnSetShape.l0]
            rw [if_neg (by omega), e1, Option.bind_some, e2, Option.bind_some]
            simp only
            rw [if_neg (by rw [nI_len]; omega), q, if_neg (by simp), if_neg (by omega), if_neg (by omega), if_neg (by omega), decide_eq_false (by omega)]
          · by_cases c : t.sz = 0
            · refine Ev.step (f := fun _ => some true) (fun k => ?_) (Ev.now _)
              simp only [laws_FnSetShape.j1]
              rw [if_neg (by simp), Road.w64 (lhT t - rhT t) (lhT t - rhT t) rfl (by omega) (by omega), if_pos s5, Road.w64 (rhT t - lhT t) (rhT t - lhT t) rfl (by omega) (by omega), if_pos s6, if_pos (by omega), awake_eq]
              rfl
            · obtain ⟨m, hm1, hm2, hm3⟩ := s7 c
              have hmx : Go.Proofs.YtjhdnapgdajllaaDoorW.PrintWords.mx (lhT t) (rhT t) = SetW.mx (lhT t) (rhT t) := by
                have := mx_spec (lhT t) (rhT t)
                unfold Go.Proofs.YtjhdnapgdajllaaDoorW.PrintWords.mx
                split <;> omega
              refine Ev.step (f := fun k => (laws_least.f k (m : Int)).bind fun t127 => (if t127 ≤ ((t.sz : Nat) : Int) then some true else some false)) (fun k => ?_) (Ev.bind (least_ev m hm3) ?_)
              · simp only [laws_FnSetShape.j1]
                rw [if_neg (by simp), Road.w64 (lhT t - rhT t) (lhT t - rhT t) rfl (by omega) (by omega), if_pos s5, Road.w64 (rhT t - lhT t) (rhT t - lhT t) rfl (by omega) (by omega), if_pos s6, if_neg (by omega), awake_eq, hmx, ← hm1, Road.w64 (m : Int) (m : Int) rfl (by omega) (by omega)]
                rfl
              · rw [if_pos (by omega)]
                exact Ev.now _
        | succ d ih =>
          intro i hi1 hi2 hz
          have hi : i < l0.length := by omega
          by_cases c : l0[i].f0 = 0
          · refine Ev.step (f := fun k => laws_FnSetShape.l0 k l0 ((i + 1 : Nat) : Int)) (fun k => ?_) (ih (i + 1) (by omega) (by omega) (fun j hj h => ?_))
            · simp only [laws_FnSetShape.l0]
              rw [if_pos (by omega), if_pos (by omega), rd34_at l0 i hi, if_pos c, wrap_nat i (by omega)]
            · rcases Nat.lt_or_ge j i with h' | h'
              · exact hz j h' h
              · obtain rfl : j = i := by omega
                exact c
          · refine Ev.step (f := fun _ => some true) (fun k => ?_) (Ev.now _)
            simp only [laws_FnSetShape.l0]
            rw [if_pos (by omega), if_pos (by omega), rd34_at l0 i hi, if_neg c, awake_eq]
            rfl
      exact loop l0.length 0 (by omega) (by omega) (fun j hj => absurd hj (by omega))

end Go.Proofs.YtjhdnapgdajllaaDoor.Pure
