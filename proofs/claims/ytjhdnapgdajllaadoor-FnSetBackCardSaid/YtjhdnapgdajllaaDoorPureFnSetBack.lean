/- FnSetBack: whatever the acts and the bytes behind, the law returns true. -/
import Derived.Test.YtjhdnapgdajllaaDoorPFnSetBackr
import Derived.Test.YtjhdnapgdajllaaDoorRoad
namespace Go.Proofs.YtjhdnapgdajllaaDoor.Pure
open Go.RowKit Go.Proofs.YtjhdnapgdajllaaDoor.PFnSetBack Go.Proofs.YtjhdnapgdajllaaDoorW.PrintWords Go.Proofs.YtjhdnapgdajllaaDoorW.PrintLast Go.Proofs.YtjhdnapgdajllaaDoor.Road
set_option linter.unusedVariables false
set_option linter.unusedSimpArgs false

open SetW SetSpecW
def okA (a : S34) : Bool := !decide (a.f0 < 0) && (!decide (a.f0 > 1) && !decide (a.f1 ≥ 18446744073709549568))
theorem rd34_at (l : List S34) (i : Nat) (h : i < l.length) : rd_T34 l (i : Int) = l[i] := by
  simp [rd_T34, List.getD_eq_getElem?_getD, List.getElem?_eq_getElem h]
theorem acts_loop (l : List S34) (hl : l.length ≤ 60) (d : Nat) : ∀ i : Nat, i ≤ l.length → l.length - i = d → Ev (fun k => laws_acts.l0 k l (i : Int)) ((l.drop i).all okA) := by
  induction d with
  | zero =>
    intro i h1 h2
    have e : l.drop i = [] := List.drop_of_length_le (by omega)
    rw [e]
    refine Ev.step (f := fun _ => some true) (fun k => ?_) (Ev.now _)
    simp only [laws_acts.l0]
    rw [if_neg (by omega)]
  | succ d ih =>
    intro i h1 h2
    have hi : i < l.length := by omega
    rw [List.drop_eq_getElem_cons hi, List.all_cons]
    have he : (k : Nat) → laws_acts.l0 (k + 1) l (i : Int) = if l[i].f0 < 0 then some false else if l[i].f0 > 1 then some false else if l[i].f1 ≥ 18446744073709549568 then some false else laws_acts.l0 k l ((i + 1 : Nat) : Int) := fun k => by
      simp only [laws_acts.l0]
      rw [if_pos (by omega), if_pos (by omega), rd34_at l i hi, wrap_nat i (by omega)]
    by_cases c1 : l[i].f0 < 0
    · refine Ev.step (f := fun _ => some false) (fun k => by rw [he, if_pos c1]) ?_
      have : okA l[i] = false := by simp [okA, c1]
      rw [this]
      exact Ev.now _
    · by_cases c2 : l[i].f0 > 1
      · refine Ev.step (f := fun _ => some false) (fun k => by rw [he, if_neg c1, if_pos c2]) ?_
        have : okA l[i] = false := by simp [okA, c2]
        rw [this]
        exact Ev.now _
      · by_cases c3 : l[i].f1 ≥ 18446744073709549568
        · refine Ev.step (f := fun _ => some false) (fun k => by rw [he, if_neg c1, if_neg c2, if_pos c3]) ?_
          have : okA l[i] = false := by simp only [okA, c3, decide_true, Bool.not_true, Bool.and_false]
          rw [this]
          exact Ev.now _
        · have : okA l[i] = true := by simp only [okA, c1, c2, c3, decide_false, Bool.not_false, Bool.and_true]
          rw [this, Bool.true_and]
          exact Ev.step (fun k => by rw [he, if_neg c1, if_neg c2, if_neg c3]) (ih (i + 1) (by omega) (by omega))
def actsB (l : List S34) : Bool := decide (l.length ≤ 60) && l.all okA
theorem acts_ev (l : List S34) : Ev (fun k => laws_acts.f k l) (actsB l) := by
  unfold laws_acts.f actsB
  by_cases h : (l.length : Int) > 60
  · simp only [if_pos h]
    rw [decide_eq_false (by omega), Bool.false_and]
    exact Ev.now _
  · simp only [if_neg h]
    rw [decide_eq_true (by omega), Bool.true_and]
    exact acts_loop l (by omega) l.length 0 (by omega) (by omega)
/-- What the guard lets in is formed. -/
theorem okA_ok {l : List S34} (h : l.all okA = true) (hw : ∀ z ∈ l, 0 ≤ z.f1) : l.all (fun a => (a.f0 == 0 || a.f0 == 1) && (decide (0 ≤ a.f1) && decide (a.f1 < (top64 : Int)))) = true := by
  refine List.all_eq_true.2 fun a ha => ?_
  have h1 := List.all_eq_true.1 h a ha
  have h2 := hw a ha
  simp only [okA, Bool.and_eq_true, Bool.not_eq_true', decide_eq_false_iff_not] at h1
  have h3 : a.f1 < (top64 : Int) := by unfold top64; omega
  have h4 : a.f0 = 0 ∨ a.f0 = 1 := by omega
  rcases h4 with e | e <;> simp [e, h2, h3]
theorem awake_eq : laws_awakeSet.f = some true := by
  have e : impl_SetFirst.f [(⟨0, 7⟩ : S34)] 2 = some [7] := by decide
  unfold laws_awakeSet.f
  rw [e]
  decide
theorem same_loop (a : List Int) (hl : a.length ≤ 100000) (d : Nat) : ∀ i : Nat, i ≤ a.length → a.length - i = d → Ev (fun k => spec_SameSet.l0 k a a (i : Int)) true := by
  induction d with
  | zero =>
    intro i h1 h2
    refine Ev.step (f := fun _ => some true) (fun k => ?_) (Ev.now _)
    simp only [spec_SameSet.l0]
    rw [if_neg (by omega)]
  | succ d ih =>
    intro i h1 h2
    refine Ev.step (f := fun k => spec_SameSet.l0 k a a ((i + 1 : Nat) : Int)) (fun k => ?_) (ih (i + 1) (by omega) (by omega))
    simp only [spec_SameSet.l0]
    rw [if_pos (by omega), if_pos (by omega), if_pos (by omega), if_pos trivial, wrap_nat i (by omega)]
theorem same_ev (a : List Int) (hl : a.length ≤ 100000) : Ev (fun k => spec_SameSet.f k a a) true := by
  have := same_loop a hl a.length 0 (by omega) (by omega)
  unfold spec_SameSet.f
  simpa using this
theorem u64_of_wf {x : Int} (h : (Lit.int .u64 x).wf = true) : ∃ n : Nat, x = (n : Int) ∧ n < 18446744073709551616 := by
  simp [Lit.wf, IntKind.min, IntKind.max, IntKind.signed, IntKind.bits] at h
  exact ⟨x.toNat, by omega, by omega⟩
theorem wf_u64 {z : Int} (h : (Lit.int .u64 z).wf = true) : 0 ≤ z ∧ z < 18446744073709551616 := by
  obtain ⟨n, e, hn⟩ := u64_of_wf h
  omega

-- SENT: FnSetBack: whatever the acts and the bytes behind, the law returns true.
open SetEncW SetDecW SetIterG SetDecV
theorem len60 {l : List S34} (h : l.length ≤ 60) : (actsL [] (impl_SetEncode.acts l)).length ≤ 60 := by
  have := actsL_le (impl_SetEncode.acts l) []
  rw [impl_SetEncode.acts, List.length_map, List.length_nil] at this
  exact Nat.le_trans this (by omega)
theorem lenE_ok {lo hi : Nat} : ∀ t : Tr, t.ok lo hi → lenE t
  | .nil, _ => trivial
  | .node _ _ _ l r _, ⟨_, _, _, a4, _, _, a7, a8⟩ => ⟨a4, lenE_ok l a7, lenE_ok r a8⟩
theorem enc_len (t : Tr) (L : List Nat) (h : lenE t) : (encB t L).length = 10 + 266 * t.sz := by
  rw [encB, List.length_map, encN, List.length_append, List.length_append, List.length_append, leN_len, leN_len, preE_len t h]
  simp only [List.length_cons, List.length_nil]
  omega
theorem rep_of {l : List S34} (hf : impl_SetEncode.okB l = true) : Rep (actsT .nil (impl_SetEncode.acts l)) (actsL [] (impl_SetEncode.acts l)) := by
  refine actsT_rep (impl_SetEncode.acts l) Rep.nil (fun a ha => ?_)
  obtain ⟨b, hb, rfl⟩ := List.mem_map.1 ha
  have := List.all_eq_true.1 hf b hb
  simp only [Bool.and_eq_true, decide_eq_true_eq] at this
  exact this.2.2
theorem enc_dec {t : Tr} {L : List Nat} (h : Rep t L) (hL : L.length ≤ 60) (l1 : List Int) (h1 : ∀ z ∈ l1, 0 ≤ z) (hl1 : l1.length ≤ 100) : impl_SetDecode.f (encB t L ++ l1) = some (nI L, ((10 + 266 * t.sz : Nat) : Int), 0) := by
  have hsz := h.sz
  have e : (encB t L ++ l1).map Int.toNat = encN t L ++ l1.map Int.toNat := by
    rw [List.map_append, encB, List.map_map]
    congr 1
    exact (List.map_congr_left fun x _ => Int.toNat_natCast x).trans (List.map_id _)
  have hd := dec2_enc t L (l1.map Int.toNat) h.ok (fitE_of t h.fit h.good (by omega)) (lenE_ok t h.ok) h.nums (by omega) (by omega) (by rw [List.length_map]; omega)
  unfold impl_SetDecode.f
  rw [if_pos, e, hd]
  · rfl
  · refine List.all_eq_true.2 fun z hz => decide_eq_true ?_
    rcases List.mem_append.1 hz with hz | hz
    · obtain ⟨y, _, rfl⟩ := List.mem_map.1 hz
      omega
    · exact h1 z hz
theorem u8_of_wf {z : Int} (h : (Lit.int .u8 z).wf = true) : 0 ≤ z := by
  simp [Lit.wf, IntKind.min, IntKind.max, IntKind.signed, IntKind.bits] at h
  omega
theorem FnSetBack : laws_FnSetBack.Pure := by
  intro l0 l1 hm0 hok0 hm1 hok1
  apply Ev.rounds
  have big : Ev (fun k => laws_FnSetBack.j0 k l0 l1 true) true := Ev.step (f := fun _ => some true) (fun k => by simp only [laws_FnSetBack.j0]; rw [if_pos trivial]) (Ev.now _)
  have awk : Ev (fun k => laws_FnSetBack.j1 k l0 l1 true) true := Ev.step (f := fun _ => some true) (fun k => by simp only [laws_FnSetBack.j1]; rw [if_pos trivial, awake_eq]; rfl) (Ev.now _)
  unfold laws_FnSetBack.f
  by_cases h1 : (l0.length : Int) > 2147483647
  · simp only [if_pos h1]
    exact big
  · simp only [if_neg h1]
    by_cases h2 : (l1.length : Int) > 2147483647
    · simp only [decide_eq_true h2]
      exact big
    · simp only [decide_eq_false h2]
      refine Ev.step (f := fun k => (laws_acts.f k l0).bind fun t122 => (if t122 = true then (laws_FnSetBack.j1 k l0 l1 (decide ((l1.length : Int) > 100))) else (laws_FnSetBack.j1 k l0 l1 true))) (fun k => by simp only [laws_FnSetBack.j0]; rw [if_neg (by simp)]) ?_
      refine Ev.bind (acts_ev l0) ?_
      cases hb : actsB l0 with
      | false => simpa using awk
      | true =>
        simp only [if_true]
        by_cases h3 : (l1.length : Int) > 100
        · simp only [decide_eq_true h3]
          exact awk
        · simp only [decide_eq_false h3]
          obtain ⟨hl, ha⟩ := Bool.and_eq_true_iff.1 hb
          have hl := of_decide_eq_true hl
          have hf := okA_ok ha (fun z hz => (wf_u64 (hok0 z hz).2).1)
          have hrep := rep_of hf
          have hx := len60 hl
          have e1 : impl_SetEncode.f l0 = some (encB (actsT .nil (impl_SetEncode.acts l0)) (actsL [] (impl_SetEncode.acts l0)), ((10 + 266 * (actsT .nil (impl_SetEncode.acts l0)).sz : Nat) : Int)) := if_pos ⟨hf, by omega⟩
          have e3 : laws_numbers.f l0 = some (nI (actsL [] (impl_SetEncode.acts l0))) := by
            have e0 : impl_SetFirst.f l0 1000 = some (nI ((actsL [] (impl_SetEncode.acts l0)).take (1000 : Int).toNat)) := if_pos ⟨hf, by omega, by omega⟩
            rw [List.take_of_length_le (by omega)] at e0
            unfold laws_numbers.f
            rw [e0]
            rfl
          obtain ⟨T, hT⟩ : ∃ T, T = actsT .nil (impl_SetEncode.acts l0) := ⟨_, rfl⟩
          obtain ⟨X, hX⟩ : ∃ X, X = actsL [] (impl_SetEncode.acts l0) := ⟨_, rfl⟩
          rw [← hT, ← hX] at e1 hrep
          rw [← hX] at e3 hx
          have e2 := enc_dec hrep hx l1 (fun z hz => u8_of_wf (hok1 z hz)) (by omega)
          have el := enc_len T X (lenE_ok T hrep.ok)
          have hsz := hrep.sz
          refine Ev.step (f := fun k => (spec_SameSet.f k (nI X) (nI X)).bind fun t145 => (if t145 = true then some true else (some false))) (fun k => ?_) ?_
          · simp only [laws_FnSetBack.j1]
            rw [if_neg (by simp), e1, Option.bind_some, if_pos (by rw [el]), Option.bind_some, if_pos (by rw [el, List.length_nil]; omega), Option.bind_some, List.nil_append, if_pos (by rw [el]; omega), e2, Option.bind_some, if_pos (show ((nI X, ((10 + 266 * T.sz : Nat) : Int), (0 : Int)) : List Int × Int × Int).2.2 = 0 from rfl), if_pos (by rw [el]), e3, Option.bind_some, awake_eq]
            rfl
          · refine Ev.bind (same_ev _ (by rw [nI_len]; omega)) ?_
            simp only [if_true]
            exact Ev.now _

end Go.Proofs.YtjhdnapgdajllaaDoor.Pure
