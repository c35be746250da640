/- FnTopicSubject: whatever the text (its length within the form's reach), the law returns true. -/
import Derived.Test.YtmfblbjklmgncaaDoorPFnTopicSubjectx4
import Derived.Test.YtmfblbjklmgncaaDoorRoad
namespace Go.Proofs.YtmfblbjklmgncaaDoor.Pure
open Go.RowKit Go.Proofs.YtmfblbjklmgncaaDoor.PFnTopicSubject Go.Proofs.YtmfblbjklmgncaaDoorW.PrintWords Go.Proofs.YtmfblbjklmgncaaDoorW.PrintLast Go.Proofs.YtmfblbjklmgncaaDoor.Road
set_option linter.unusedVariables false
set_option linter.unusedSimpArgs false

/-! ### levels of a topic -/
def levs (p : Bs) : Bs → List Bs
  | [] => [p]
  | c :: l => if c = 47 then p :: levs [] l else levs (p ++ [c]) l
theorem levs_ne (p l : Bs) : levs p l ≠ [] := by
  induction l generalizing p with
  | nil => simp [levs]
  | cons c l ih => unfold levs; split; simp; exact ih _
def escC (c : UInt8) : Bs := if c = 46 then [47, 47] else [c]
/-- A topic's (a filter's) subject, from a place of it on: at the start of a level, or within one; what stands for a byte: e. -/
def subj (e : UInt8 → Bs) : Bool → Bs → Bs
  | true, [] => [47]
  | false, [] => []
  | st, c :: l => if c = 47 then (if st then [47, 46] else [46]) ++ subj e true l else e c ++ subj e false l
def lev1 (e : UInt8 → Bs) (t : Bs) : Bs := if t = [] then [47] else t.flatMap e
theorem subj_both (e : UInt8 → Bs) : ∀ l : Bs, (∀ p : Bs, p ≠ [] → p.flatMap e ++ subj e false l = join ((levs p l).map (lev1 e))) ∧ subj e true l = join ((levs [] l).map (lev1 e)) := by
  intro l
  induction l with
  | nil => exact ⟨fun p hp => by simp [subj, levs, join, lev1, hp], by simp [subj, levs, join, lev1]⟩
  | cons c l ih =>
    refine ⟨fun p hp => ?_, ?_⟩
    · by_cases hc : c = 47
      · simp only [subj, levs, hc, if_true, List.map_cons]
        rw [join_cons _ _ (by simpa using levs_ne [] l), ← ih.2]
        simp [lev1, hp]
      · simp only [subj, levs, hc, if_false]
        rw [← ih.1 _ (by simp)]
        simp
    · by_cases hc : c = 47
      · simp only [subj, levs, hc, if_true, List.map_cons]
        rw [join_cons _ _ (by simpa using levs_ne [] l), ← ih.2]
        simp [lev1]
      · simp only [subj, levs, hc, if_false]
        have := ih.1 [c] (by simp)
        simpa using this
theorem subj_true (e : UInt8 → Bs) (l : Bs) : subj e true l = join ((levs [] l).map (lev1 e)) := (subj_both e l).2
abbrev tsub := subj escC
theorem tsub_ne (l : Bs) : tsub true l ≠ [] := by
  cases l with
  | nil => simp [tsub, subj]
  | cons c l => unfold tsub subj escC; split <;> (try split) <;> simp
theorem tsub_inj : ∀ (st : Bool) (s t : Bs), tsub st s = tsub st t → s = t := by
  intro st s
  induction s generalizing st with
  | nil =>
    intro t h
    cases t with
    | nil => rfl
    | cons d t =>
      cases st
      · unfold tsub subj at h
        by_cases h1 : d = 47
        · simp [h1] at h
        · simp only [h1, if_false, escC] at h
          split at h <;> simp at h
      · simp only [tsub, subj, subj] at h
        by_cases h1 : d = 47
        · simp [h1] at h
        · simp only [h1, if_false, escC] at h
          split at h
          · simp at h
          · simp only [List.cons_append, List.nil_append, List.cons.injEq] at h
            exact absurd h.1.symm h1
  | cons c s ih =>
    intro t h
    cases t with
    | nil =>
      cases st
      · unfold tsub subj at h
        by_cases h1 : c = 47
        · simp [h1] at h
        · simp only [h1, if_false, escC] at h
          split at h <;> simp at h
      · simp only [tsub, subj, subj] at h
        by_cases h1 : c = 47
        · simp [h1] at h
        · simp only [h1, if_false, escC] at h
          split at h
          · simp at h
          · simp only [List.cons_append, List.nil_append, List.cons.injEq] at h
            exact absurd h.1 h1
    | cons d t =>
      simp only [tsub, subj, subj] at h
      by_cases h1 : c = 47 <;> by_cases h2 : d = 47
      · simp only [h1, h2, if_true] at h
        rw [h1, h2, ih true t (List.append_cancel_left h)]
      · exfalso
        simp only [h1, h2, if_true, if_false, escC] at h
        cases st <;> simp only [if_true, if_false, Bool.false_eq_true] at h <;> split at h <;> simp at h
        · exact absurd h.1.symm (by rename_i h3; exact fun e => h3 e)
        · exact absurd h.1.symm (by rename_i h3; exact fun e => h2 e)
      · exfalso
        simp only [h1, h2, if_true, if_false, escC] at h
        cases st <;> simp only [if_true, if_false, Bool.false_eq_true] at h <;> split at h <;> simp at h
        · exact absurd h.1 (by rename_i h3; exact fun e => h3 e)
        · exact absurd h.1 (by rename_i h3; exact fun e => h1 e)
      · simp only [h1, h2, if_false, escC] at h
        by_cases h3 : c = 46 <;> by_cases h4 : d = 46
        · simp only [h3, h4, if_true] at h
          rw [h3, h4, ih false t (List.append_cancel_left h)]
        · exfalso; simp [h3, h4] at h; exact h2 h.1.symm
        · exfalso; simp [h3, h4] at h; exact h1 h.1
        · simp [h3, h4] at h
          rw [h.1, ih false t h.2]
/-! ### the code's own way -/
def endB (out : Bs) : Bs := if out.getLast? = some 46 then out ++ [47] else out
def wsC (c : UInt8) : Bool := c == 32 || c == 9 || c == 10 || c == 13 || c == 12 || c == 127
def convB (wc : Bool) : Bs → Bs → Option Bs
  | out, [] => some (endB out)
  | out, c :: l =>
    if c = 47 then
      (if out = [] ∨ out.getLast? = some 46 then convB wc (out ++ [47, 46]) l
       else if l = [] ∨ l.head? = some 47 then convB wc (out ++ [46, 47]) l
       else convB wc (out ++ [46]) l)
    else if wsC c then none
    else if c = 46 then convB wc (out ++ [47, 47]) l
    else if c = 43 ∨ c = 35 then (if wc then convB wc (out ++ [if c = 43 then 42 else 62]) l else none)
    else convB wc (out ++ [c]) l
def fsC (c : UInt8) : Bs := if c = 43 then [42] else if c = 35 then [62] else escC c
abbrev fsub := subj fsC
theorem fsub_slash (l : Bs) (h : l = [] ∨ l.head? = some 47) : fsub true l = 47 :: fsub false l := by
  cases l with
  | nil => rfl
  | cons c l =>
    have : c = 47 := by simpa using h
    subst this
    simp [fsub, subj]
theorem convB_spec (wc : Bool) : ∀ (l out : Bs) (st : Bool), (∀ c ∈ l, wsC c = false) → (wc = true ∨ ∀ c ∈ l, c ≠ 43 ∧ c ≠ 35) →
    (st = true ↔ (out = [] ∨ out.getLast? = some 46)) → (out = [] → l ≠ []) → convB wc out l = some (out ++ fsub st l) := by
  intro l
  induction l with
  | nil =>
    intro out st h1 h2 hst hne
    unfold convB endB
    cases st
    · have : ¬ out.getLast? = some 46 := fun h => by simpa using hst.2 (.inr h)
      simp [this, subj]
    · rcases hst.1 rfl with h | h
      · exact absurd rfl (hne h)
      · simp [h, subj]
  | cons c l ih =>
    intro out st h1 h2 hst hne
    have h1' : ∀ c ∈ l, wsC c = false := fun x hx => h1 x (by simp [hx])
    have h2' : wc = true ∨ ∀ c ∈ l, c ≠ 43 ∧ c ≠ 35 := h2.imp id fun h x hx => h x (by simp [hx])
    unfold convB
    by_cases hc : c = 47
    · rw [if_pos hc]
      by_cases hs : st = true
      · rw [if_pos (hst.1 hs), ih _ true h1' h2' (by simp) (by simp)]
        simp [fsub, subj, hc, hs]
      · have hs' : st = false := by simpa using hs
        rw [if_neg (fun h => hs (hst.2 h))]
        by_cases hl : l = [] ∨ l.head? = some 47
        · rw [if_pos hl, ih _ false h1' h2' (by simp) (by simp)]
          simp [fsub, subj, hc, hs', fsub_slash l hl]
        · rw [if_neg hl, ih _ true h1' h2' (by simp) (by simp)]
          simp [fsub, subj, hc, hs']
    · rw [if_neg hc, if_neg (by rw [h1 c (by simp)]; simp)]
      by_cases hd : c = 46
      · subst hd
        rw [if_pos rfl, ih _ false h1' h2' (by simp) (by simp)]
        simp [fsub, subj, fsC, escC]
      · rw [if_neg hd]
        by_cases hp : c = 43 ∨ c = 35
        · rw [if_pos hp]
          rcases h2 with h2 | h2
          · rw [if_pos h2, ih _ false h1' h2' (by rcases hp with h | h <;> simp [h]) (by simp)]
            rcases hp with h | h <;> simp [fsub, subj, fsC, h]
          · exact absurd hp (by have := h2 c (by simp); rintro (h | h); exact this.1 h; exact this.2 h)
        · rw [if_neg hp, ih _ false h1' h2' (by simp [hd]) (by simp)]
          have p1 : ¬ c = 43 := fun h => hp (.inl h)
          have p2 : ¬ c = 35 := fun h => hp (.inr h)
          simp [fsub, subj, fsC, escC, hc, hd, p1, p2]
theorem fsub_tsub (st : Bool) (l : Bs) (h : ∀ c ∈ l, c ≠ 43 ∧ c ≠ 35) : fsub st l = tsub st l := by
  induction l generalizing st with
  | nil => cases st <;> rfl
  | cons c l ih =>
    have h0 := h c (by simp)
    have ih' := fun st => ih st fun x hx => h x (by simp [hx])
    cases st <;> simp [fsub, subj, tsub, fsC, h0.1, h0.2, ih']

/-! ### what can be said of levels -/
theorem levs_no (p l : Bs) (hp : (47 : UInt8) ∉ p) : ∀ t ∈ levs p l, (47 : UInt8) ∉ t := by
  induction l generalizing p with
  | nil => intro t ht; simp [levs] at ht; rw [ht]; exact hp
  | cons c l ih =>
    unfold levs
    split
    · intro t ht
      rcases List.mem_cons.1 ht with ht | ht
      · rw [ht]; exact hp
      · exact ih [] (by simp) t ht
    · rename_i hc
      exact ih _ (by intro h; rcases List.mem_append.1 h with h | h; exact hp h; exact hc (by simpa using (List.mem_singleton.1 h).symm))
theorem levs_mem (p l : Bs) : ∀ t ∈ levs p l, ∀ c ∈ t, c ∈ p ∨ c ∈ l := by
  induction l generalizing p with
  | nil => intro t ht c hc; simp [levs] at ht; rw [ht] at hc; exact .inl hc
  | cons d l ih =>
    unfold levs
    split
    · intro t ht c hc
      rcases List.mem_cons.1 ht with ht | ht
      · rw [ht] at hc; exact .inl hc
      · rcases ih [] t ht c hc with h | h
        · simp at h
        · exact .inr (by simp [h])
    · intro t ht c hc
      rcases ih _ t ht c hc with h | h
      · rcases List.mem_append.1 h with h | h
        · exact .inl h
        · exact .inr (by simp [List.mem_singleton.1 h])
      · exact .inr (by simp [h])
/-- Every byte is a level's, or a stroke. -/
theorem levs_all (p l : Bs) (Q : UInt8 → Prop) (h : ∀ t ∈ levs p l, ∀ c ∈ t, Q c) : ∀ c, c ∈ p ∨ c ∈ l → c = 47 ∨ Q c := by
  induction l generalizing p with
  | nil => intro c hc; simp at hc; exact .inr (h p (by simp [levs]) c hc)
  | cons d l ih =>
    unfold levs at h
    split at h
    · rename_i hd
      intro c hc
      rcases hc with hc | hc
      · exact .inr (h p (by simp) c hc)
      · rcases List.mem_cons.1 hc with hc | hc
        · exact .inl (hc.trans hd)
        · exact ih [] (fun t ht => h t (by simp [ht])) c (.inr hc)
    · intro c hc
      refine ih _ h c ?_
      rcases hc with hc | hc
      · exact .inl (by simp [hc])
      · rcases List.mem_cons.1 hc with hc | hc
        · exact .inl (by simp [hc])
        · exact .inr hc
def topC (c : UInt8) : Bool := !(decide (c < 33) || decide (c > 126) || c == 43 || c == 35 || c == 42 || c == 62)
def topB (t : Bs) : Bool := t.all topC && !(t == [])
def filtL : List Bs → Bool
  | [] => true
  | t :: ts => (t == [] || t == [43] || (t == [35] && ts == []) || topB t) && filtL ts
def filtB (l : Bs) : Bool := filtL (levs [] l) && !(l == [])
theorem topC_of {c : UInt8} (h : topC c = true) : 33 ≤ c.toNat ∧ c.toNat ≤ 126 ∧ c ≠ 43 ∧ c ≠ 35 ∧ c ≠ 42 ∧ c ≠ 62 := by
  simp [topC, UInt8.lt_iff_toNat_lt] at h
  obtain ⟨⟨⟨⟨⟨h1, h2⟩, h3⟩, h4⟩, h5⟩, h6⟩ := h
  exact ⟨h1, h2, h3, h4, h5, h6⟩
theorem escC_ok {c : UInt8} : ∀ d ∈ escC c, (d = 47 ∨ d = c) ∧ d ≠ 46 := by
  intro d hd
  unfold escC at hd
  split at hd
  · simp at hd; exact ⟨.inl hd, by simp [hd]⟩
  · rename_i h; simp at hd; exact ⟨.inr hd, by rw [hd]; exact h⟩
theorem lev1_ne (e : UInt8 → Bs) (he : ∀ c, e c ≠ []) (t : Bs) : lev1 e t ≠ [] := by
  unfold lev1
  split
  · simp
  · rename_i h
    cases t with
    | nil => exact absurd rfl h
    | cons c t => simp [he c]
theorem escC_ne (c : UInt8) : escC c ≠ [] := by unfold escC; split <;> simp
theorem fsC_ne (c : UInt8) : fsC c ≠ [] := by unfold fsC; split; simp; split; simp; exact escC_ne c
/-- A filter's level as a subject's token. -/
theorem lev1_filt (ts : List Bs) (h : filtL ts = true) (hs : ∀ t ∈ ts, (47 : UInt8) ∉ t) :
    ∀ t ∈ ts, (∀ d ∈ lev1 fsC t, d ≠ 46 ∧ 33 ≤ d.toNat ∧ d.toNat ≤ 126) ∧ (lev1 fsC t = [62] ↔ t = [35]) ∧ (t ≠ [35] → t ≠ [43] → ∀ d ∈ lev1 fsC t, d ≠ 62 ∧ d ≠ 42) := by
  induction ts with
  | nil => simp
  | cons u ts ih =>
    simp only [filtL, Bool.and_eq_true, Bool.or_eq_true] at h
    intro t ht
    rcases List.mem_cons.1 ht with ht | ht
    · subst ht
      rcases h.1 with ((h1 | h1) | h1) | h1
      · have : t = [] := by simpa using h1
        subst this
        simp [lev1]
      · have : t = [43] := by simpa using h1
        subst this
        simp [lev1, fsC]
      · have : t = [35] := by simpa using h1.1
        subst this
        simp [lev1, fsC]
      · have hne : t ≠ [] := by simp [topB] at h1; exact h1.2
        have hc : ∀ c ∈ t, topC c = true := by simp [topB] at h1; exact h1.1
        have hall : ∀ d ∈ lev1 fsC t, d ≠ 46 ∧ 33 ≤ d.toNat ∧ d.toNat ≤ 126 ∧ d ≠ 62 ∧ d ≠ 42 := by
          intro d hd
          unfold lev1 at hd
          rw [if_neg hne] at hd
          obtain ⟨c, hc1, hc2⟩ := List.mem_flatMap.1 hd
          obtain ⟨a1, a2, a3, a4, a5, a6⟩ := topC_of (hc c hc1)
          unfold fsC at hc2
          rw [if_neg a3, if_neg a4] at hc2
          obtain ⟨h3, h2⟩ := escC_ok d hc2
          refine ⟨h2, ?_⟩
          rcases h3 with h1 | h1
          · subst h1; decide
          · subst h1; exact ⟨a1, a2, a6, a5⟩
        refine ⟨fun d hd => ⟨(hall d hd).1, (hall d hd).2.1, (hall d hd).2.2.1⟩, ?_, fun _ _ d hd => ⟨(hall d hd).2.2.2.1, (hall d hd).2.2.2.2⟩⟩
        constructor
        · intro h; exact absurd rfl (hall 62 (by rw [h]; simp)).2.2.2.1
        · intro h
          subst h
          have := hc 35 (by simp)
          simp [topC] at this
    · exact ih h.2 (fun t ht => hs t (by simp [ht])) t ht
theorem join_snoc (ts : List Bs) (u : Bs) (h : ts ≠ []) : join (ts ++ [u]) = join ts ++ 46 :: u := by
  induction ts with
  | nil => exact absurd rfl h
  | cons t ts ih =>
    cases ts with
    | nil => rfl
    | cons v ts =>
      rw [join_cons t _ (by simp), List.cons_append, join_cons t _ (by simp), ih (by simp)]
      simp
/-- A subject that ends with a point and '>' has that as its last token. -/
theorem join_gt (ts : List Bs) (hn : ∀ t ∈ ts, t ≠ []) (h : ∀ t ∈ ts, (46 : UInt8) ∉ t) : (∃ x, join ts = x ++ [46, 62]) ↔ ∃ us, us ≠ [] ∧ ts = us ++ [[62]] := by
  constructor
  · rintro ⟨x, hx⟩
    rcases List.eq_nil_or_concat ts with h0 | ⟨us, u, h0⟩
    · subst h0; simp [join] at hx
    · rw [List.concat_eq_append] at h0
      subst h0
      by_cases hu : us = []
      · subst hu
        have := h u (by simp)
        simp [join] at hx
        rw [hx] at this
        simp at this
      · refine ⟨us, hu, ?_⟩
        rw [join_snoc _ _ hu] at hx
        have hun := hn u (by simp)
        have hud := h u (by simp)
        rcases List.eq_nil_or_concat u with h0 | ⟨v, d, h0⟩
        · exact absurd h0 hun
        · rw [List.concat_eq_append] at h0
          subst h0
          have e : join us ++ 46 :: (v ++ [d]) = (join us ++ 46 :: v) ++ [d] := by simp
          rw [e, show x ++ [46, 62] = (x ++ [46]) ++ [62] from by simp] at hx
          obtain ⟨e1, e2⟩ := List.append_inj' hx rfl
          have e2 : d = 62 := by simpa using e2
          subst e2
          rcases List.eq_nil_or_concat v with h0 | ⟨y, z, h0⟩
          · rw [h0]; rfl
          · rw [List.concat_eq_append] at h0
            subst h0
            have e : join us ++ 46 :: (y ++ [z]) = (join us ++ 46 :: y) ++ [z] := by simp
            rw [e] at e1
            obtain ⟨_, e2⟩ := List.append_inj' e1 rfl
            have e2 : z = 46 := by simpa using e2
            subst e2
            simp at hud
  · rintro ⟨us, hu, rfl⟩
    exact ⟨join us, by rw [join_snoc _ _ hu]⟩

theorem levels_loop (s : ByteArray) (hs : s.size ≤ 2147483647) (d : Nat) : ∀ (i a : Nat) (out : List ByteArray), a ≤ i → i ≤ (bl s).length → (bl s).length - i = d → out.length + d < 8796093022208 →
    Ev (fun k => spec_levels.l0 k s out (a : Int) (i : Int)) (out ++ (levs (((bl s).take i).drop a) ((bl s).drop i)).map mkB) := by
  have hl := bl_len s
  induction d with
  | zero =>
    intro i a out h1 h2 h3 h4
    have hi : i = (bl s).length := by omega
    refine Ev.step (f := fun _ => some (out ++ [s.extract a s.size])) (fun k => ?_) ?_
    · simp only [spec_levels.l0]
      rw [if_neg (by omega), if_pos (by omega), if_pos (by omega), if_pos (by omega)]
      simp
    · rw [hi, List.drop_length, List.take_length, extract_mkB, ← hl, List.take_length]
      exact Ev.now _
  | succ d ih =>
    intro i a out h1 h2 h3 h4
    have hlt : i < (bl s).length := by omega
    have hb := bt_get s i hlt
    rw [drop_get _ _ hlt]
    by_cases hc : (bl s)[i] = 47
    · refine Ev.step (f := fun k => spec_levels.l0 k s (out ++ [s.extract a i]) ((i + 1 : Nat) : Int) ((i + 1 : Nat) : Int)) (fun k => ?_) ?_
      · simp only [spec_levels.l0]
        rw [if_pos (by omega), if_pos (by omega), if_pos (by rw [hb, hc]; rfl), if_pos (by omega), if_pos (by omega), if_pos (by omega), if_pos (by omega), wrap_nat i (by omega)]
        simp
      · have := ih (i + 1) (i + 1) (out ++ [s.extract a i]) (Nat.le_refl _) (by omega) (by omega) (by simp; omega)
        rw [levs, if_pos hc]
        simpa [extract_mkB] using this
    · refine Ev.step (f := fun k => spec_levels.l0 k s out (a : Int) ((i + 1 : Nat) : Int)) (fun k => ?_) ?_
      · simp only [spec_levels.l0]
        rw [if_pos (by omega), if_pos (by omega), if_neg (by rw [hb]; intro h; exact hc ((u8_eq _ 47 (by omega)).1 h)), wrap_nat i (by omega)]
      · have := ih (i + 1) a out (by omega) (by omega) (by omega) (by omega)
        rw [levs, if_neg hc, ← take_drop_snoc _ _ _ h1 hlt]
        exact this

theorem levels_ev (s : ByteArray) (hs : s.size ≤ 2147483647) : Ev (fun k => spec_levels.f k s) ((levs [] (bl s)).map mkB) := by
  have := levels_loop s hs (bl s).length 0 0 [] (by omega) (by omega) (by omega) (by have := bl_len s; simp; omega)
  simpa [spec_levels.f] using this

theorem tok_get (ts : List Bs) (i : Nat) (h : i < ts.length) : (rdOf ByteArray.empty (ts.map mkB) (i : Int)).toList = ts[i] := by
  rw [rdOf_nat _ _ _ (by simpa using h)]
  simp [toList_mkB]

theorem Topical_loop (s : ByteArray) (hs : s.size ≤ 2147483647) (d : Nat) : ∀ i : Nat, i ≤ (bl s).length → (bl s).length - i = d → Ev (fun k => spec_Topical.l0 k s (i : Int)) (((bl s).drop i).all topC && !(bl s == [])) := by
  have hl := bl_len s
  induction d with
  | zero =>
    intro i h1 h2
    refine Ev.step (f := fun _ => some (!(bl s == []))) (fun k => ?_) ?_
    · simp only [spec_Topical.l0]
      rw [if_neg (by omega), toList_bl]
      rfl
    · rw [List.drop_of_length_le (by omega)]
      exact Ev.now _
  | succ d ih =>
    intro i h1 h2
    have hlt : i < (bl s).length := by omega
    have hb := bt_get s i hlt
    have hi := ih (i + 1) (by omega) (by omega)
    rw [drop_get _ _ hlt, List.all_cons]
    generalize hc : (bl s)[i] = c at hb
    have hv : topC c = !(decide (c.toNat < 33) || decide (c.toNat > 126) || decide (c.toNat = 43) || decide (c.toNat = 35) || decide (c.toNat = 42) || decide (c.toNat = 62)) := by
      have e : ∀ n : Nat, n < 256 → (c == UInt8.ofNat n) = decide (c.toNat = n) := fun n hn => by
        rw [Bool.eq_iff_iff]
        simp only [beq_iff_eq, decide_eq_true_eq]
        have := u8_eq c n hn
        constructor
        · intro h; have := this.2 h; omega
        · intro h; exact this.1 (by omega)
      have e1 : decide (c < 33) = decide (c.toNat < 33) := by rw [decide_eq_decide, UInt8.lt_iff_toNat_lt]; rfl
      have e2 : decide (c > 126) = decide (c.toNat > 126) := by rw [decide_eq_decide, gt_iff_lt, UInt8.lt_iff_toNat_lt]; rfl
      unfold topC
      rw [e1, e2, show (c == 43) = decide (c.toNat = 43) from e 43 (by decide), show (c == 35) = decide (c.toNat = 35) from e 35 (by decide), show (c == 42) = decide (c.toNat = 42) from e 42 (by decide), show (c == 62) = decide (c.toNat = 62) from e 62 (by decide)]
    by_cases g1 : c.toNat < 33
    · refine Ev.step (f := fun _ => some false) (fun k => ?_) ?_
      · simp only [spec_Topical.l0]
        rw [if_pos (by omega), if_pos (by omega), if_pos (by omega)]
      · simp [hv, g1]; exact Ev.now _
    by_cases g2 : c.toNat > 126
    · refine Ev.step (f := fun _ => some false) (fun k => ?_) ?_
      · simp only [spec_Topical.l0]
        rw [if_pos (by omega), if_pos (by omega), if_neg (by omega), if_pos (by omega)]
      · simp [hv, g2]; exact Ev.now _
    by_cases g3 : c.toNat = 43
    · refine Ev.step (f := fun _ => some false) (fun k => ?_) ?_
      · simp only [spec_Topical.l0]
        rw [if_pos (by omega), if_pos (by omega), if_neg (by omega), if_neg (by omega), if_pos (by omega)]
      · simp [hv, g3]; exact Ev.now _
    by_cases g4 : c.toNat = 35
    · refine Ev.step (f := fun _ => some false) (fun k => ?_) ?_
      · simp only [spec_Topical.l0]
        rw [if_pos (by omega), if_pos (by omega), if_neg (by omega), if_neg (by omega), if_neg (by omega), if_pos (by omega)]
      · simp [hv, g4]; exact Ev.now _
    by_cases g5 : c.toNat = 42
    · refine Ev.step (f := fun _ => some false) (fun k => ?_) ?_
      · simp only [spec_Topical.l0]
        rw [if_pos (by omega), if_pos (by omega), if_neg (by omega), if_neg (by omega), if_neg (by omega), if_neg (by omega), if_pos (by omega)]
      · simp [hv, g5]; exact Ev.now _
    by_cases g6 : c.toNat = 62
    · refine Ev.step (f := fun _ => some false) (fun k => ?_) ?_
      · simp only [spec_Topical.l0]
        rw [if_pos (by omega), if_pos (by omega), if_neg (by omega), if_neg (by omega), if_neg (by omega), if_neg (by omega), if_neg (by omega), if_pos (by omega)]
      · simp [hv, g6]; exact Ev.now _
    have ht : topC c = true := by rw [hv]; simp [g1, g2, g3, g4, g5, g6]
    refine Ev.step (f := fun k => spec_Topical.l0 k s ((i + 1 : Nat) : Int)) (fun k => ?_) ?_
    · simp only [spec_Topical.l0]
      rw [if_pos (by omega), if_pos (by omega), if_neg (by omega), if_neg (by omega), if_neg (by omega), if_neg (by omega), if_neg (by omega), if_neg (by omega), wrap_nat i (by omega)]
    · rw [ht]
      simpa using hi
theorem Topical_ev (s : ByteArray) (hs : s.size ≤ 2147483647) : Ev (fun k => spec_Topical.f k s) (topB (bl s)) := by
  have := Topical_loop s hs (bl s).length 0 (by omega) (by omega)
  simpa [spec_Topical.f, topB] using this

theorem join_flat (t : Bs) (ts : List Bs) : join (t :: ts) = t ++ ts.flatMap fun u => 46 :: u := by
  induction ts generalizing t with
  | nil => simp [join]
  | cons u ts ih => rw [join_cons _ _ (by simp), ih u]; simp
theorem Join_loop (ts : List Bs) (L : Nat) (hL : L ≤ 2147483647) (hn : ts.length ≤ 2147483647) (d : Nat) : ∀ (i : Nat) (acc : Bs), 0 < i → i ≤ ts.length → ts.length - i = d → (acc ++ (ts.drop i).flatMap fun u => 46 :: u).length ≤ L →
    Ev (fun k => spec_Join.l0 k (ts.map mkB) (mkB acc) (i : Int)) (mkB (acc ++ (ts.drop i).flatMap fun u => 46 :: u)) := by
  induction d with
  | zero =>
    intro i acc h0 h1 h2 h3
    refine Ev.step (f := fun _ => some (mkB acc)) (fun k => ?_) ?_
    · simp only [spec_Join.l0]
      rw [if_neg (by simp; omega)]
    · rw [List.drop_of_length_le (by omega)]
      simp
      exact Ev.now _
  | succ d ih =>
    intro i acc h0 h1 h2 h3
    have hlt : i < ts.length := by omega
    have hg := tok_get ts i hlt
    have hgm : rdOf ByteArray.empty (ts.map mkB) (i : Int) = mkB ts[i] := by rw [rdOf_nat _ _ _ (by simpa using hlt)]; simp
    rw [drop_get _ _ hlt] at h3 ⊢
    have e : mkB acc ++ (⟨#[46]⟩ : ByteArray) ++ mkB ts[i] = mkB (acc ++ 46 :: ts[i]) := by
      apply bl_inj
      simp [bl, mkB]
    have hfm : (ts[i] :: ts.drop (i + 1)).flatMap (fun u => 46 :: u) = (46 :: ts[i]) ++ (ts.drop (i + 1)).flatMap fun u => 46 :: u := List.flatMap_cons
    rw [hfm, ← List.append_assoc] at h3 ⊢
    have hsz : acc.length + 1 + (ts[i]).length ≤ L := by have := h3; simp only [List.length_append, List.length_cons] at this; omega
    refine Ev.step (f := fun k => spec_Join.l0 k (ts.map mkB) (mkB (acc ++ 46 :: ts[i])) ((i + 1 : Nat) : Int)) (fun k => ?_) ?_
    · simp only [spec_Join.l0]
      rw [if_pos (by simp; omega), if_pos (by omega), if_pos (by rw [size_mkB]; omega), if_pos (by omega), hgm, if_pos (by rw [ByteArray.size_append, size_mkB, size_mkB, size_lit]; simp; omega), e, wrap_nat i (by omega)]
    · exact ih (i + 1) (acc ++ 46 :: ts[i]) (by omega) (by omega) (by omega) h3
theorem Join_ev (ts : List Bs) (hne : ts ≠ []) (hL : (join ts).length ≤ 2147483647) (hn : ts.length ≤ 2147483647) : Ev (fun k => spec_Join.f k (ts.map mkB)) (mkB (join ts)) := by
  cases ts with
  | nil => exact absurd rfl hne
  | cons t ts =>
    have hf := join_flat t ts
    unfold spec_Join.f
    have hgm : rdOf ByteArray.empty ((t :: ts).map mkB) ((0 : Nat) : Int) = mkB t := by rw [rdOf_nat _ _ _ (by simp)]; simp
    have hgm' : rdOf ByteArray.empty (mkB t :: ts.map mkB) 0 = mkB t := hgm
    have e : (⟨#[]⟩ : ByteArray) ++ mkB t = mkB t := by apply bl_inj; simp [bl, mkB]
    have hlen : t.length ≤ 2147483647 := by rw [hf] at hL; simp at hL; omega
    refine Ev.step (f := fun k => spec_Join.l0 k ((t :: ts).map mkB) (mkB t) ((1 : Nat) : Int)) (fun k => ?_) ?_
    · simp only [spec_Join.l0, List.map_cons]
      rw [if_pos (by simp; try omega), if_neg (by omega), if_pos (by omega), hgm', if_pos (by rw [size_mkB, size_lit]; simp; try omega), e]
      show spec_Join.l0 k _ _ (wrap64 (((0 : Nat) : Int) + 1)) = _
      rw [wrap_nat 0 (by omega)]
    · have := Join_loop (t :: ts) (join (t :: ts)).length hL hn ts.length 1 t (by omega) (by simp) (by simp) (by rw [hf]; simp)
      rw [hf]
      simpa using this
theorem level_loop (t : Bs) (ht : t.length ≤ 1000000) (d : Nat) : ∀ (i : Nat) (acc : Bs), i ≤ t.length → t.length - i = d → acc.length ≤ 2 * i → Ev (fun k => spec_level.l0 k (mkB t) (mkB acc) (i : Int)) (mkB (acc ++ (t.drop i).flatMap escC)) := by
  have hb0 : bl (mkB t) = t := bl_mkB t
  have hs0 := size_mkB t
  induction d with
  | zero =>
    intro i acc h1 h2 h3
    refine Ev.step (f := fun _ => some (mkB acc)) (fun k => ?_) ?_
    · simp only [spec_level.l0]
      rw [if_neg (by omega)]
    · rw [List.drop_of_length_le (by omega)]
      simp
      exact Ev.now _
  | succ d ih =>
    intro i acc h1 h2 h3
    have hlt : i < t.length := by omega
    have hb : bt (mkB t) (i : Int) = ((t[i]).toNat : Int) := by
      have := bt_get (mkB t) i (by rw [hb0]; exact hlt)
      rw [this]
      congr 2
      try simp only [hb0]
    rw [drop_get _ _ hlt]
    by_cases hc : t[i] = 46
    · have e : mkB acc ++ (⟨#[47, 47]⟩ : ByteArray) = mkB (acc ++ [47, 47]) := by apply bl_inj; simp [bl, mkB]
      refine Ev.step (f := fun k => spec_level.l0 k (mkB t) (mkB (acc ++ [47, 47])) ((i + 1 : Nat) : Int)) (fun k => ?_) ?_
      · simp only [spec_level.l0]
        rw [if_pos (by omega), if_pos (by omega), if_pos (by rw [hb, hc]; rfl), if_pos (by rw [size_mkB]; omega), e, wrap_nat i (by omega)]
      · have he : escC t[i] = [47, 47] := by unfold escC; rw [if_pos hc]
        rw [List.flatMap_cons, he, ← List.append_assoc]
        exact ih (i + 1) (acc ++ [47, 47]) (by omega) (by omega) (by simp; omega)
    · have e : mkB acc ++ (mkB t).extract i (i + 1) = mkB (acc ++ [t[i]]) := by
        rw [extract_mkB, hb0]
        have : (List.take (i + 1) t).drop i = [t[i]] := by rw [take_drop_snoc _ _ _ (Nat.le_refl _) hlt, List.drop_of_length_le (by simp; try omega)]; rfl
        rw [this]
        apply bl_inj
        simp [bl, mkB]
      have es : ((mkB t).extract i (i + 1)).size = 1 := by rw [ByteArray.size_extract, hs0]; omega
      refine Ev.step (f := fun k => spec_level.l0 k (mkB t) (mkB (acc ++ [t[i]])) ((i + 1 : Nat) : Int)) (fun k => ?_) ?_
      · simp only [spec_level.l0]
        rw [if_pos (by omega), if_pos (by omega), if_neg (by rw [hb]; intro h; exact hc ((u8_eq _ 46 (by omega)).1 h)), wrap_nat i (by omega), if_pos (by omega), if_pos (by omega)]
        simp only [Int.toNat_natCast]
        rw [if_pos (by rw [es, size_mkB]; omega), e]
      · have he : escC t[i] = [t[i]] := by unfold escC; rw [if_neg hc]
        rw [List.flatMap_cons, he, ← List.append_assoc]
        exact ih (i + 1) (acc ++ [t[i]]) (by omega) (by omega) (by simp; omega)
theorem level_ev (t : Bs) (ht : t.length ≤ 1000000) : Ev (fun k => spec_level.f k (mkB t)) (mkB (lev1 escC t)) := by
  unfold spec_level.f lev1
  by_cases h : t = []
  · simp only [toList_mkB, h, if_true]
    exact Ev.now _
  · simp only [toList_mkB, h, if_false]
    have := level_loop t ht t.length 0 [] (by omega) (by omega) (by simp)
    show Ev (fun k => spec_level.l0 k (mkB t) (mkB []) ((0 : Nat) : Int)) _
    rw [List.drop_zero, List.nil_append] at this
    exact this

theorem flat_congr {f g : UInt8 → Bs} {t : Bs} (h : ∀ c ∈ t, f c = g c) : t.flatMap f = t.flatMap g := by
  induction t with
  | nil => rfl
  | cons c t ih => rw [List.flatMap_cons, List.flatMap_cons, h c (by simp), ih (fun x hx => h x (by simp [hx]))]
theorem filt_len {l : Bs} : (levs [] l).length ≤ l.length + 1 := by
  have key : ∀ (l p : Bs), (levs p l).length ≤ l.length + 1 := by
    intro l
    induction l with
    | nil => intro p; simp [levs]
    | cons c l ih => intro p; unfold levs; split; have := ih []; simp; omega; have := ih (p ++ [c]); simp; omega
  exact key l []
theorem levs_each (p l : Bs) (n : Nat) (h : p.length + l.length ≤ n) : ∀ t ∈ levs p l, t.length ≤ n := by
  induction l generalizing p with
  | nil => intro t ht; simp [levs] at ht; subst ht; simpa using h
  | cons c l ih =>
    unfold levs
    split
    · intro t ht
      rcases List.mem_cons.1 ht with ht | ht
      · subst ht; simp at h; omega
      · exact ih [] (by simp at h ⊢; omega) t ht
    · exact ih _ (by simp at h ⊢; omega)
theorem subj_len (e : UInt8 → Bs) (he : ∀ c, (e c).length ≤ 2) (l : Bs) : ∀ st, (subj e st l).length ≤ 2 * l.length + 1 := by
  induction l with
  | nil => intro st; cases st <;> simp [subj]
  | cons c l ih =>
    intro st
    have h1 := ih true
    have h2 := ih false
    have h3 := he c
    cases st <;> simp only [subj] <;> split <;> simp <;> omega
theorem escC_len (c : UInt8) : (escC c).length ≤ 2 := by unfold escC; split <;> simp
theorem fsC_len (c : UInt8) : (fsC c).length ≤ 2 := by unfold fsC; split; simp; split; simp; exact escC_len c

theorem subj_mem (e : UInt8 → Bs) (l : Bs) : ∀ st, ∀ d ∈ subj e st l, d = 47 ∨ d = 46 ∨ ∃ c ∈ l, d ∈ e c := by
  induction l with
  | nil => intro st d hd; cases st <;> simp [subj] at hd; exact .inl hd
  | cons c l ih =>
    intro st d hd
    have go : ∀ st', d ∈ subj e st' l → d = 47 ∨ d = 46 ∨ ∃ c' ∈ c :: l, d ∈ e c' := fun st' h => by
      rcases ih st' d h with h | h | ⟨x, hx, h⟩
      · exact .inl h
      · exact .inr (.inl h)
      · exact .inr (.inr ⟨x, by simp [hx], h⟩)
    simp only [subj] at hd
    split at hd
    · rcases List.mem_append.1 hd with hd | hd
      · cases st <;> simp at hd
        · exact .inr (.inl hd)
        · rcases hd with hd | hd
          · exact .inl hd
          · exact .inr (.inl hd)
      · exact go _ hd
    · rcases List.mem_append.1 hd with hd | hd
      · exact .inr (.inr ⟨c, by simp, hd⟩)
      · exact go _ hd
theorem fsC_ok {c : UInt8} (h : 33 ≤ c.toNat) : ∀ d ∈ fsC c, 33 ≤ d.toNat := by
  intro d hd
  unfold fsC at hd
  split at hd
  · simp at hd; subst hd; decide
  · split at hd
    · simp at hd; subst hd; decide
    · rcases (escC_ok d hd).1 with h1 | h1
      · subst h1; decide
      · subst h1; exact h
theorem fsub_unspaced {l : Bs} (h : ∀ c ∈ l, 33 ≤ c.toNat) : spacedB (fsub true l) = false := by
  cases hs : spacedB (fsub true l)
  · rfl
  · exfalso
    obtain ⟨d, hd, hb⟩ := List.any_eq_true.1 hs
    have h33 : 33 ≤ d.toNat := by
      rcases subj_mem fsC l true d hd with h1 | h1 | ⟨c, hc, h1⟩
      · subst h1; decide
      · subst h1; decide
      · exact fsC_ok (h c hc) d h1
    unfold blankB at hb
    simp only [Bool.or_eq_true, beq_iff_eq] at hb
    rcases hb with (((hb | hb) | hb) | hb) | hb <;> (subst hb; revert h33; decide)
theorem filtL_chars (ts : List Bs) (h : filtL ts = true) : ∀ t ∈ ts, ∀ c ∈ t, 33 ≤ c.toNat ∧ c.toNat ≤ 126 := by
  induction ts with
  | nil => simp
  | cons u ts ih =>
    simp only [filtL, Bool.and_eq_true, Bool.or_eq_true] at h
    intro t ht c hc
    rcases List.mem_cons.1 ht with ht | ht
    · subst ht
      rcases h.1 with ((h1 | h1) | h1) | h1
      · have : t = [] := by simpa using h1
        subst this; simp at hc
      · have : t = [43] := by simpa using h1
        subst this; simp at hc; subst hc; decide
      · have : t = [35] := by simpa using h1.1
        subst this; simp at hc; subst hc; decide
      · have hcc : ∀ c ∈ t, topC c = true := by simp [topB] at h1; exact h1.1
        have := topC_of (hcc c hc)
        exact ⟨this.1, this.2.1⟩
    · exact ih h.2 t ht c hc
theorem filt_chars {l : Bs} (h : filtL (levs [] l) = true) : ∀ c ∈ l, 33 ≤ c.toNat ∧ c.toNat ≤ 126 := by
  intro c hc
  rcases levs_all [] l (fun c => 33 ≤ c.toNat ∧ c.toNat ≤ 126) (filtL_chars _ h) c (.inr hc) with h1 | h1
  · subst h1; decide
  · exact h1
theorem formed_filt (ts : List Bs) (h : filtL ts = true) (hs : ∀ t ∈ ts, (47 : UInt8) ∉ t) : formedB (ts.map (lev1 fsC)) = true := by
  have hL := lev1_filt ts h hs
  induction ts with
  | nil => rfl
  | cons t ts ih =>
    have h0 := h
    simp only [filtL, Bool.and_eq_true, Bool.or_eq_true] at h0
    rw [List.map_cons, formedB, if_neg (lev1_ne fsC fsC_ne t)]
    have hrest := ih h0.2 (fun x hx => hs x (by simp [hx])) (fun x hx => hL x (by simp [hx]))
    by_cases h62 : lev1 fsC t = [62]
    · rw [if_pos h62]
      have ht : t = [35] := ((hL t (by simp)).2.1).1 h62
      have hts : ts = [] := by
        rcases h0.1 with ((h1 | h1) | h1) | h1
        · have : t = [] := by simpa using h1
          rw [ht] at this; simp at this
        · have : t = [43] := by simpa using h1
          rw [ht] at this; simp at this
        · simpa using h1.2
        · rw [ht] at h1; simp [topB, topC] at h1
      rw [hts]; rfl
    · rw [if_neg h62]; exact hrest
theorem toks_filt {l : Bs} (h : filtL (levs [] l) = true) : toks [] (fsub true l) = (levs [] l).map (lev1 fsC) := by
  have hL := lev1_filt _ h (levs_no [] l (by simp))
  rw [show fsub true l = join ((levs [] l).map (lev1 fsC)) from subj_true fsC l]
  refine toks_join _ (by simpa using levs_ne [] l) ?_
  intro t ht
  obtain ⟨u, hu, rfl⟩ := List.mem_map.1 ht
  intro h46
  exact ((hL u hu).1 46 h46).1 rfl
theorem valid_filt {l : Bs} (h : filtL (levs [] l) = true) : sValidB (fsub true l) = true := by
  unfold sValidB
  rw [toks_filt h, formed_filt _ h (levs_no [] l (by simp)), fsub_unspaced fun c hc => (filt_chars h c hc).1]
  rfl
theorem filtL_top (ts : List Bs) (h : ∀ t ∈ ts, t = [] ∨ topB t = true) : filtL ts = true := by
  induction ts with
  | nil => rfl
  | cons t ts ih =>
    simp only [filtL, Bool.and_eq_true, Bool.or_eq_true]
    refine ⟨?_, ih fun x hx => h x (by simp [hx])⟩
    rcases h t (by simp) with h1 | h1
    · exact .inl (.inl (.inl (by simp [h1])))
    · exact .inr h1
theorem top_levs {l : Bs} (h : topB l = true) : ∀ t ∈ levs [] l, t = [] ∨ topB t = true := by
  have hc : ∀ c ∈ l, topC c = true := by simp [topB] at h; exact h.1
  intro t ht
  by_cases h0 : t = []
  · exact .inl h0
  · refine .inr ?_
    simp only [topB, Bool.and_eq_true, List.all_eq_true, Bool.not_eq_true', beq_eq_false_iff_ne]
    exact ⟨fun c hcm => hc c (by rcases levs_mem [] l t ht c hcm with h1 | h1; simp at h1; exact h1), h0⟩
theorem top_filt {l : Bs} (h : topB l = true) : filtL (levs [] l) = true := filtL_top _ (top_levs h)
theorem top_no {l : Bs} (h : topB l = true) : ∀ c ∈ l, c ≠ 43 ∧ c ≠ 35 := by
  have hc : ∀ c ∈ l, topC c = true := by simp [topB] at h; exact h.1
  intro c hcm
  have := topC_of (hc c hcm)
  exact ⟨this.2.2.1, this.2.2.2.1⟩
theorem top_notW {l : Bs} (h : topB l = true) : ((levs [] l).map (lev1 fsC)).all notW = true := by
  rw [List.all_eq_true]
  intro t ht
  obtain ⟨u, hu, rfl⟩ := List.mem_map.1 ht
  have hL := lev1_filt _ (top_filt h) (levs_no [] l (by simp)) u hu
  have h35 : u ≠ [35] := by
    intro e
    have := (levs_mem [] l u hu 35 (by simp [e]))
    rcases this with h1 | h1
    · simp at h1
    · exact (top_no h 35 h1).2 rfl
  have h43 : u ≠ [43] := by
    intro e
    have := (levs_mem [] l u hu 43 (by simp [e]))
    rcases this with h1 | h1
    · simp at h1
    · exact (top_no h 43 h1).1 rfl
  have hall := hL.2.2 h35 h43
  unfold notW
  have n1 : (lev1 fsC u == [42]) = false := beq_eq_false_iff_ne.mpr fun e => (hall 42 (by rw [e]; simp)).2 rfl
  have n2 : (lev1 fsC u == [62]) = false := beq_eq_false_iff_ne.mpr fun e => (hall 62 (by rw [e]; simp)).1 rfl
  rw [n1, n2]; rfl
/-! ### the code's own conversion, on numbers -/
def I8 (b : UInt8) : Int := (b.toNat : Int)
theorem I8_eq (c : UInt8) (n : Nat) (hn : n < 256) : (I8 c = (n : Int)) ↔ c = UInt8.ofNat n := u8_eq c n hn
theorem convI_map (wc : Bool) : ∀ (l out : Bs), TopicW.convI wc (out.map I8) (l.map I8) = (convB wc out l).map fun r => r.map I8 := by
  have hlast : ∀ (out : Bs), ((out.map I8).getLast? = some 46) ↔ (out.getLast? = some 46) := by
    intro out
    rw [List.getLast?_map]
    cases out.getLast? with
    | none => simp
    | some y => simp only [Option.map_some, Option.some.injEq]; exact I8_eq y 46 (by decide)
  intro l
  induction l with
  | nil =>
    intro out
    simp only [List.map_nil, TopicW.convI, convB, endB, Option.map_some]
    by_cases h : out.getLast? = some 46
    · rw [if_pos ((hlast out).2 h), if_pos h]; simp [I8]
    · rw [if_neg (fun h' => h ((hlast out).1 h')), if_neg h]
  | cons c l ih =>
    intro out
    have e : ∀ p : Bs, out.map I8 ++ p.map I8 = (out ++ p).map I8 := fun p => by simp
    simp only [List.map_cons, TopicW.convI, convB]
    have hnil : (out.map I8 = []) ↔ out = [] := by simp
    have hln : (l.map I8 = []) ↔ l = [] := by simp
    have hlh : ((l.map I8).head? = some 47) ↔ (l.head? = some 47) := by
      cases l with
      | nil => simp
      | cons y l => simp only [List.map_cons, List.head?_cons, Option.some.injEq]; exact I8_eq y 47 (by decide)
    by_cases h47 : c = 47
    · rw [if_pos ((show I8 c = 47 ↔ c = 47 from I8_eq c 47 (by decide)).2 h47), if_pos h47]
      by_cases h1 : out = [] ∨ out.getLast? = some 46
      · rw [if_pos (h1.imp hnil.2 (hlast out).2), if_pos h1]
        exact (congrArg (fun z => TopicW.convI wc z (l.map I8)) (e [47, 46])).trans (ih _)
      · rw [if_neg (fun h => h1 (h.imp hnil.1 (hlast out).1)), if_neg h1]
        by_cases h2 : l = [] ∨ l.head? = some 47
        · rw [if_pos (h2.imp hln.2 hlh.2), if_pos h2]
          exact (congrArg (fun z => TopicW.convI wc z (l.map I8)) (e [46, 47])).trans (ih _)
        · rw [if_neg (fun h => h2 (h.imp hln.1 hlh.1)), if_neg h2]
          exact (congrArg (fun z => TopicW.convI wc z (l.map I8)) (e [46])).trans (ih _)
    · rw [if_neg (fun h => h47 ((show I8 c = 47 ↔ c = 47 from I8_eq c 47 (by decide)).1 h)), if_neg h47]
      have hws : (I8 c = 32 ∨ I8 c = 9 ∨ I8 c = 10 ∨ I8 c = 13 ∨ I8 c = 12 ∨ I8 c = 127) ↔ wsC c = true := by
        unfold wsC
        simp only [Bool.or_eq_true, beq_iff_eq]
        rw [show (I8 c = 32) ↔ c = 32 from I8_eq c 32 (by decide), show (I8 c = 9) ↔ c = 9 from I8_eq c 9 (by decide), show (I8 c = 10) ↔ c = 10 from I8_eq c 10 (by decide), show (I8 c = 13) ↔ c = 13 from I8_eq c 13 (by decide), show (I8 c = 12) ↔ c = 12 from I8_eq c 12 (by decide), show (I8 c = 127) ↔ c = 127 from I8_eq c 127 (by decide)]
        simp only [or_assoc]
      by_cases hw : wsC c = true
      · rw [if_pos (hws.2 hw), if_pos hw]; rfl
      · rw [if_neg (fun h => hw (hws.1 h)), if_neg hw]
        by_cases h46 : c = 46
        · rw [if_pos ((show I8 c = 46 ↔ c = 46 from I8_eq c 46 (by decide)).2 h46), if_pos h46]
          exact (congrArg (fun z => TopicW.convI wc z (l.map I8)) (e [47, 47])).trans (ih _)
        · rw [if_neg (fun h => h46 ((show I8 c = 46 ↔ c = 46 from I8_eq c 46 (by decide)).1 h)), if_neg h46]
          have hpp : (I8 c = 43 ∨ I8 c = 35) ↔ (c = 43 ∨ c = 35) := by rw [show (I8 c = 43) ↔ c = 43 from I8_eq c 43 (by decide), show (I8 c = 35) ↔ c = 35 from I8_eq c 35 (by decide)]
          by_cases hp : c = 43 ∨ c = 35
          · rw [if_pos (hpp.2 hp), if_pos hp]
            cases wc
            · rfl
            · simp only [if_true]
              by_cases h43 : c = 43
              · rw [if_pos ((show I8 c = 43 ↔ c = 43 from I8_eq c 43 (by decide)).2 h43), if_pos h43]
                exact (congrArg (fun z => TopicW.convI true z (l.map I8)) (e [42])).trans (ih _)
              · rw [if_neg (fun h => h43 ((show I8 c = 43 ↔ c = 43 from I8_eq c 43 (by decide)).1 h)), if_neg h43]
                exact (congrArg (fun z => TopicW.convI true z (l.map I8)) (e [62])).trans (ih _)
          · rw [if_neg (fun h => hp (hpp.1 h)), if_neg hp]
            exact (congrArg (fun z => TopicW.convI wc z (l.map I8)) (e [c])).trans (ih _)
theorem bytes_I8 (s : ByteArray) : bytesOf s = (bl s).map I8 := by
  have := bytesOf_mkB (bl s)
  rw [mkB_bl] at this
  exact this
theorem str_I8 (r : Bs) : strOfNums (r.map I8) = mkB r := by
  have := strOfNums_bytesOf (mkB r)
  rw [bytesOf_mkB] at this
  exact this
theorem conv_filt (wc : Bool) {l : Bs} (hne : l ≠ []) (h : filtL (levs [] l) = true) (hw : wc = true ∨ ∀ c ∈ l, c ≠ 43 ∧ c ≠ 35) : TopicW.convI wc [] (l.map I8) = some ((fsub true l).map I8) := by
  have h1 := convI_map wc l []
  rw [convB_spec wc l [] true (fun c hc => ?_) hw (by simp) (fun _ => hne)] at h1
  · simpa using h1
  · have := filt_chars h c hc
    unfold wsC
    simp only [Bool.or_eq_false_iff, beq_eq_false_iff_ne]
    refine ⟨⟨⟨⟨⟨?_, ?_⟩, ?_⟩, ?_⟩, ?_⟩, ?_⟩ <;> (intro e; subst e; revert this; decide)

theorem topic_ev (s : ByteArray) (hs : s.size ≤ 2147483647) : Ev (fun k => laws_topic.f k s) (decide ((bl s).length ≤ 100) && topB (bl s)) := by
  have hl := bl_len s
  unfold laws_topic.f
  by_cases h : s.size ≤ 100
  · have hd : decide ((bl s).length ≤ 100) = true := decide_eq_true (by omega)
    rw [hd]
    simp only [show (s.size : Int) ≤ 100 by omega, if_true, Bool.true_and]
    exact Ev.bind (Topical_ev s hs) (Ev.now _)
  · have hd : decide ((bl s).length ≤ 100) = false := decide_eq_false (by omega)
    rw [hd]
    simp only [show ¬ (s.size : Int) ≤ 100 by omega, if_false, Bool.false_and]
    exact Ev.now _
theorem topic_conv (s : ByteArray) (hs : s.size ≤ 100) (h : topB (bl s) = true) : impl_TopicSubject.f s = some ((fsub true (bl s)).map I8, 0) := by
  have hl := bl_len s
  have hne : bl s ≠ [] := by simp [topB] at h; exact h.2
  have hbn : (bl s).map I8 ≠ [] := by simpa using hne
  unfold impl_TopicSubject.f impl_TopicSubjectR.f
  rw [if_pos (by omega), bytes_I8, if_neg (by intro h; rcases h with h | h; exact hbn h; rw [List.length_map] at h; omega), conv_filt false hne (top_filt h) (.inr (top_no h))]
  rfl

-- SENT: FnTopicSubject: whatever the text (its length within the form's reach), the law returns true.
theorem TopicSubject_loop (ts : List Bs) (hne : ts ≠ []) (hn : ts.length ≤ 1000) (hts : ∀ t ∈ ts, t.length ≤ 1000000) (hL : (join (ts.map (lev1 escC))).length ≤ 2147483647) (d : Nat) : ∀ i : Nat, i ≤ ts.length → ts.length - i = d →
    Ev (fun k => spec_TopicSubject.l0 k ((ts.take i).map fun t => mkB (lev1 escC t)) (ts.map mkB) (i : Int)) (mkB (join (ts.map (lev1 escC)))) := by
  induction d with
  | zero =>
    intro i h1 h2
    refine Ev.step (f := fun k => (spec_Join.f k ((ts.map (lev1 escC)).map mkB)).bind fun t => some t) (fun k => ?_) ?_
    · simp only [spec_TopicSubject.l0]
      rw [if_neg (by simp; omega), List.take_of_length_le (by omega), List.map_map]
      rfl
    · exact Ev.bind (Join_ev _ (by simpa using hne) hL (by simp; omega)) (Ev.now _)
  | succ d ih =>
    intro i h1 h2
    have hlt : i < ts.length := by omega
    have hgm : rdOf ByteArray.empty (ts.map mkB) (i : Int) = mkB ts[i] := by rw [rdOf_nat _ _ _ (by simpa using hlt)]; simp
    have hi := ih (i + 1) (by omega) (by omega)
    have htk : ((ts.take (i + 1)).map fun t => mkB (lev1 escC t)) = ((ts.take i).map fun t => mkB (lev1 escC t)) ++ [mkB (lev1 escC ts[i])] := by rw [List.take_succ_eq_append_getElem hlt, List.map_append]; rfl
    rw [htk] at hi
    have hlen : ((ts.take i).map fun t => mkB (lev1 escC t)).length < 8796093022208 := by simp; omega
    have hlv := level_ev ts[i] (hts _ (List.getElem_mem hlt))
    have hstep : Ev (fun k => (spec_level.f k (mkB ts[i])).bind fun t => (if ((ts.take i).map fun t => mkB (lev1 escC t)).length < 8796093022208 then spec_TopicSubject.l0 k (((ts.take i).map fun t => mkB (lev1 escC t)) ++ [t]) (ts.map mkB) ((i + 1 : Nat) : Int) else none)) (mkB (join (ts.map (lev1 escC)))) := by
      refine Ev.bind hlv ?_
      simp only [hlen, if_true]
      exact hi
    refine Ev.step (fun k => ?_) hstep
    simp only [spec_TopicSubject.l0]
    rw [if_pos (by simp; omega), if_pos (by omega), wrap_nat i (by omega), hgm]
theorem TopicSubject_ev (s : ByteArray) (hs : s.size ≤ 100) : Ev (fun k => spec_TopicSubject.f k s) (mkB (tsub true (bl s))) := by
  have hl := bl_len s
  have hsub : tsub true (bl s) = join ((levs [] (bl s)).map (lev1 escC)) := subj_true escC (bl s)
  have hlen := subj_len escC escC_len (bl s) true
  unfold spec_TopicSubject.f
  refine Ev.bind (levels_ev s (by omega)) ?_
  have hc := filt_len (l := bl s)
  have := TopicSubject_loop (levs [] (bl s)) (levs_ne _ _) (by omega) (fun t ht => Nat.le_trans (levs_each [] (bl s) 100 (by simp; omega) t ht) (by omega)) (by rw [← hsub]; unfold tsub; omega) (levs [] (bl s)).length 0 (by omega) (by omega)
  rw [hsub]
  simpa using this
theorem FnTopicSubject : laws_FnTopicSubject.Pure := by
  intro s hs
  apply Ev.rounds
  have hl := bl_len s
  unfold laws_FnTopicSubject.f
  by_cases h1 : (s.size : Int) > 2147483647
  · simp only [if_pos h1]
    exact Ev.now _
  simp only [if_neg h1]
  refine Ev.bind (topic_ev s (by omega)) ?_
  cases hv : (decide ((bl s).length ≤ 100) && topB (bl s)) with
  | false => simp [laws_awakeTopic.f]; exact Ev.now _
  | true =>
    simp only [if_true]
    simp only [Bool.and_eq_true, decide_eq_true_eq] at hv
    have hsub := fsub_tsub true (bl s) (top_no hv.2)
    have hlen := subj_len fsC fsC_len (bl s) true
    rw [topic_conv s (by omega) hv.2]
    simp only [Option.bind_some, if_true]
    refine Ev.bind (TopicSubject_ev s (by omega)) ?_
    rw [str_I8, ← hsub]
    simp only [if_true]
    have e : impl_Publish.f (mkB (fsub true (bl s))) = some true := by
      have hsz : (mkB (fsub true (bl s))).size ≤ 1000 := by rw [size_mkB]; show (subj fsC true (bl s)).length ≤ _; omega
      unfold impl_Publish.f server_IsValidPublishSubject.f server_IsValidSubject.f server_isValidSubject.f server_subjectIsLiteral.f
      rw [if_pos ⟨rfl, by omega⟩, if_pos (by omega), ← (litL_toks (bl (mkB (fsub true (bl s))))).2, bl_mkB, valid_filt (top_filt hv.2), toks_filt (top_filt hv.2), top_notW hv.2]
      rfl
    rw [e]
    simp [laws_awakeTopic.f]
    exact Ev.now _

end Go.Proofs.YtmfblbjklmgncaaDoor.Pure
