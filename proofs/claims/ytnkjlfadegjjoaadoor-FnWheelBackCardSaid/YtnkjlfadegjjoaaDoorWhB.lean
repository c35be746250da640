/- WALKS: a timing wheel: what is due expires. -/
import Derived.Test.YtnkjlfadegjjoaaDoorProg
import Derived.Below
import Derived.Deep.Draws
import Derived.Deep.AppendLies
import Derived.Maps.AppendAt
import Derived.OwnWalk
import Derived.Laws.BytesArg
import Derived.Laws.MakeOwn
import Derived.Laws.OwnMore
import Derived.Deep.OwnRows
import Derived.Tactics
import Derived.Lib.ConvBytes
import Derived.Laws.Slices
import Derived.WalkKit
import Derived.KernelRfl
import Derived.RowKit3
import Derived.Deep.LoopGhost
import Derived.Deep.QuietTactic
import Derived.BigQuiet
import Derived.WideLaws
import Derived.Deep.DeepCutAuto
import Derived.Deep.CutBlock
import Derived.Deep.RegionHeld3
import Derived.Laws.Rows
import Derived.Lib.AppendStr
import Derived.ArgAppend
import Derived.Laws.IdiomCopy
import Derived.OrdersHeld
import Derived.Laws.BitsLemmas
import Derived.RowKit
import Derived.Test.YtnkjlfadegjjoaaDoorWWords
import Derived.Test.YtnkjlfadegjjoaaDoorWLast
import Derived.Test.YtnkjlfadegjjoaaDoorWTab
import Derived.Test.YtnkjlfadegjjoaaDoorWFour
import Derived.Test.YtnkjlfadegjjoaaDoorWQPut
import Derived.Test.YtnkjlfadegjjoaaDoorWApart
import Derived.Test.YtnkjlfadegjjoaaDoorWArr
import Derived.Test.YtnkjlfadegjjoaaDoorWZeros
import Derived.Test.YtnkjlfadegjjoaaDoorWFoot
import Derived.Test.YtnkjlfadegjjoaaDoorWKept
import Derived.Test.YtnkjlfadegjjoaaDoorWShare
import Derived.Test.YtnkjlfadegjjoaaDoorWN
import Derived.Test.YtnkjlfadegjjoaaDoorWFootNe
import Derived.Test.YtnkjlfadegjjoaaDoorWAt
import Derived.Test.YtnkjlfadegjjoaaDoorWEqStruct
import Derived.Test.YtnkjlfadegjjoaaDoorWRepsOne
import Derived.Test.YtnkjlfadegjjoaaDoorWInv
import Derived.Test.YtnkjlfadegjjoaaDoorWInvWords
import Derived.Test.YtnkjlfadegjjoaaDoorWGuard
import Derived.Test.YtnkjlfadegjjoaaDoorWNEv
import Derived.Test.YtnkjlfadegjjoaaDoorWMore
import Derived.Test.YtnkjlfadegjjoaaDoorWhA
namespace Go.Proofs.YtnkjlfadegjjoaaDoor.WhB
open Go.RowKit Go.Proofs.YtnkjlfadegjjoaaDoorW.PrintWords Go.Proofs.YtnkjlfadegjjoaaDoorW.PrintLast Go.Proofs.YtnkjlfadegjjoaaDoorW.PrintMore
attribute [local go_sem] max2_int min2_int max_two min_two max_three min_three max_four min_four   -- for this text's walks alone
set_option linter.unusedVariables false
set_option linter.unusedSimpArgs false



open Go.Maps
open _root_.Go.Proofs.YtnkjlfadegjjoaaDoor.WhA
/-! ### expiry, in plain Lean -/
def goesB (odd : Bool) (x : Int) : Bool := !odd || (x % 2 == 0)
def goneB (ts : Int) (odd : Bool) (y : Tk) : Bool := decide (y.2 ≤ ts) && goesB odd y.1
theorem goneB_iff {ts : Int} {odd : Bool} {y : Tk} : goneB ts odd y = true ↔ y.2 ≤ ts ∧ goesB odd y.1 = true := by simp [goneB]
def cntv (ts : Int) (odd : Bool) (l xs : List Tk) : Int := (l.length : Int) - ((xs.filter (goneB ts odd)).length : Int)
/-- What is in the slots when those before i, and of slot i what is no longer to come, are done. -/
def LIn (ts : Int) (odd : Bool) (l : List Tk) (i : Nat) (left : Lit → Bool) (j : Nat) (y : Tk) : Prop := (y ∈ l ∧ pos y.2 = j) ∧ ¬ (goneB ts odd y = true ∧ (j < i ∨ (j = i ∧ left (kL y.1) = false)))
def LO (ts : Int) (odd : Bool) (l : List Tk) (i : Nat) (j : Nat) (y : Tk) : Prop := (y ∈ l ∧ pos y.2 = j) ∧ ¬ (goneB ts odd y = true ∧ j < i)
structure InLog (ts : Int) (odd : Bool) (l : List Tk) (i : Nat) (left : Lit → Bool) (xs : List Tk) (z : Int) : Prop where
  mem : ∀ y, y ∈ xs ↔ y ∈ l ∧ y.2 ≤ ts ∧ (pos y.2 < i ∨ (pos y.2 = i ∧ left (kL y.1) = false))
  nd : xs.Nodup
  zM : z ≤ mxT
  zle : ∀ y ∈ l, pos y.2 = i → left (kL y.1) = false → goneB ts odd y = false → z ≤ y.2
  zat : (z = mxT ∧ ∀ y ∈ l, pos y.2 = i → left (kL y.1) = false → goneB ts odd y = true) ∨ ∃ y ∈ l, pos y.2 = i ∧ goneB ts odd y = false ∧ y.2 = z
def strike (left : Lit → Bool) (x : Int) : Lit → Bool := fun z => left z && !z.sameKey (.int .u64 x)
theorem sameKey_kL (a x : Int) : (kL a).sameKey (kL x) = (a == x) := by
  by_cases h : a = x
  · subst h
    rw [WideAt.sameKey_self (kL_key a)]
    simp
  · rw [Maps.sameKey_ne (kL_ne h)]
    simp [h]
theorem strike_false {left : Lit → Bool} {x a : Int} : strike left x (kL a) = false ↔ left (kL a) = false ∨ a = x := by
  unfold strike
  rw [show (Lit.int .u64 x) = kL x from rfl, sameKey_kL]
  by_cases h : a = x <;> simp [h]
theorem cntv_snoc_gone {ts : Int} {odd : Bool} {l xs : List Tk} {y : Tk} (h : goneB ts odd y = true) : cntv ts odd l (xs ++ [y]) = cntv ts odd l xs - 1 := by
  unfold cntv
  rw [List.filter_append, List.length_append, List.filter_cons_of_pos h, List.filter_nil, List.length_singleton]
  omega
theorem cntv_snoc_stay {ts : Int} {odd : Bool} {l xs : List Tk} {y : Tk} (h : goneB ts odd y = false) : cntv ts odd l (xs ++ [y]) = cntv ts odd l xs := by
  unfold cntv
  rw [List.filter_append, List.filter_cons_of_neg (by rw [h]; simp), List.filter_nil, List.append_nil]
theorem cntv_le {ts : Int} {odd : Bool} {l xs : List Tk} (hn : xs.Nodup) (hs : ∀ y ∈ xs, y ∈ l) : 0 ≤ cntv ts odd l xs ∧ cntv ts odd l xs ≤ l.length := by
  have h1 : (xs.filter (goneB ts odd)).length ≤ l.length := Nat.le_trans (List.length_filter_le _ _) (hn.length_le_of_subset (fun y hy => hs y hy))
  unfold cntv
  omega
theorem InLog.snd {ts : Int} {odd : Bool} {l : List Tk} {i : Nat} {left : Lit → Bool} {xs : List Tk} {z : Int} (h : InLog ts odd l i left xs z) {x e : Int} (hm : (x, e) ∈ l) (hp : pos e = i) (hl : left (kL x) = true) : (x, e) ∉ xs := fun hx => by
  obtain ⟨_, _, h3⟩ := (h.mem _).1 hx
  simp only at h3
  rw [hl] at h3
  rcases h3 with h3 | h3
  · omega
  · exact absurd h3.2 (by simp)
/-- One entry more is done. -/
theorem InLog.step {ts : Int} {odd : Bool} {l : List Tk} (hk : (l.map (·.1)).Nodup) {i : Nat} {left : Lit → Bool} {xs : List Tk} {z : Int} (h : InLog ts odd l i left xs z) {x e : Int} (he : e ≤ 1152921504606846976) (hm : (x, e) ∈ l) (hp : pos e = i) (hl : left (kL x) = true) {xs' : List Tk} {z' : Int}
    (hxs : xs' = if e ≤ ts then xs ++ [(x, e)] else xs) (hz : z' = if goneB ts odd (x, e) = true then z else if e < z then e else z) : InLog ts odd l i (strike left x) xs' z' := by
  have hone : ∀ y ∈ l, y.1 = x → y = (x, e) := fun y hy q => by
    obtain ⟨a, b⟩ := y
    simp only at q
    subst q
    rw [key_one hk hy hm]
  have hnot := h.snd hm hp hl
  have hz1 : z' ≤ z := by rw [hz]; split; exact Int.le_refl _; split <;> omega
  refine ⟨fun y => ?_, ?_, by have := h.zM; omega, fun y hy hy1 hy2 hy3 => ?_, ?_⟩
  · constructor
    · intro hy
      rw [hxs] at hy
      have : y ∈ xs ∨ (y = (x, e) ∧ e ≤ ts) := by
        split at hy
        · rename_i c
          rcases List.mem_append.1 hy with hy | hy
          · exact .inl hy
          · exact .inr ⟨List.mem_singleton.1 hy, c⟩
        · exact .inl hy
      rcases this with hy | ⟨rfl, c⟩
      · obtain ⟨h1, h2, h3⟩ := (h.mem y).1 hy
        exact ⟨h1, h2, h3.elim .inl (fun q => .inr ⟨q.1, strike_false.2 (.inl q.2)⟩)⟩
      · exact ⟨hm, c, .inr ⟨hp, strike_false.2 (.inr rfl)⟩⟩
    · rintro ⟨h1, h2, h3⟩
      have hin : y ∈ xs → y ∈ xs' := fun q => by rw [hxs]; split; exact List.mem_append_left _ q; exact q
      rcases h3 with h3 | ⟨h3, h4⟩
      · exact hin ((h.mem y).2 ⟨h1, h2, .inl h3⟩)
      · rcases strike_false.1 h4 with h4 | h4
        · exact hin ((h.mem y).2 ⟨h1, h2, .inr ⟨h3, h4⟩⟩)
        · have := hone y h1 h4
          subst this
          rw [hxs, if_pos h2]
          exact List.mem_append_right _ List.mem_cons_self
  · rw [hxs]
    split
    · exact List.nodup_append.2 ⟨h.nd, by simp, fun a ha b hb => by rw [List.mem_singleton.1 hb]; rintro rfl; exact hnot ha⟩
    · exact h.nd
  · rcases strike_false.1 hy2 with h4 | h4
    · exact Int.le_trans hz1 (h.zle y hy hy1 h4 hy3)
    · have := hone y hy h4
      subst this
      rw [hz, if_neg (by rw [hy3]; simp)]
      simp only
      split <;> omega
  · by_cases g : goneB ts odd (x, e) = true
    · rw [if_pos g] at hz
      rw [hz]
      refine h.zat.imp (fun ⟨q1, q2⟩ => ⟨q1, fun y hy hy1 hy2 => ?_⟩) id
      rcases strike_false.1 hy2 with h4 | h4
      · exact q2 y hy hy1 h4
      · have := hone y hy h4
        subst this
        exact g
    · rw [if_neg g] at hz
      have g' : goneB ts odd (x, e) = false := by simpa using g
      by_cases c : e < z
      · rw [if_pos c] at hz
        exact .inr ⟨(x, e), hm, hp, g', hz.symm⟩
      · rw [if_neg c] at hz
        rw [hz]
        rcases h.zat with ⟨q1, _⟩ | q
        · exact absurd (show e < z from by
            have hmx : mxT = 9223372036854775807 := rfl
            omega) c
        · exact .inr q
theorem MapIs.of_at {D : DataW Unit} {L : Tk → Prop} (h : MapIs D L) {x c : Int} (hx : wfU x) (hat : ∀ zd, D.atKey (.int .u64 x) zd = .lit (.int .i64 c)) : L (x, c) := by
  obtain ⟨e, he⟩ := (h.1 x hx).1 (Maps.has_true_of_atKey hat)
  have := ((h.2 x e he).2 .nil).symm.trans (hat .nil)
  injection this with this
  injection this with _ this
  rw [← this]
  exact he
theorem LIn_gone {ts : Int} {odd : Bool} {l : List Tk} (hk : (l.map (·.1)).Nodup) {i : Nat} {left : Lit → Bool} {x e : Int} (hm : (x, e) ∈ l) (hg : goneB ts odd (x, e) = true) (y : Tk) : (LIn ts odd l i left i y ∧ y.1 ≠ x) ↔ LIn ts odd l i (strike left x) i y := by
  have hone : ∀ y ∈ l, y.1 = x → y = (x, e) := fun y hy q => by
    obtain ⟨a, b⟩ := y
    simp only at q
    subst q
    rw [key_one hk hy hm]
  constructor
  · rintro ⟨⟨⟨a, b⟩, c⟩, d⟩
    refine ⟨⟨a, b⟩, fun q => c ⟨q.1, q.2.imp id (fun r => ⟨r.1, (strike_false.1 r.2).resolve_right d⟩)⟩⟩
  · rintro ⟨⟨a, b⟩, c⟩
    refine ⟨⟨⟨a, b⟩, fun q => c ⟨q.1, q.2.imp id (fun r => ⟨r.1, strike_false.2 (.inl r.2)⟩)⟩⟩, fun q => ?_⟩
    have := hone y a q
    subst this
    exact c ⟨hg, .inr ⟨rfl, strike_false.2 (.inr rfl)⟩⟩
theorem LIn_stay {ts : Int} {odd : Bool} {l : List Tk} (hk : (l.map (·.1)).Nodup) {i : Nat} {left : Lit → Bool} {x e : Int} (hm : (x, e) ∈ l) (hg : goneB ts odd (x, e) = false) (j : Nat) (y : Tk) : LIn ts odd l i left j y ↔ LIn ts odd l i (strike left x) j y := by
  have hone : ∀ y ∈ l, y.1 = x → y = (x, e) := fun y hy q => by
    obtain ⟨a, b⟩ := y
    simp only at q
    subst q
    rw [key_one hk hy hm]
  constructor
  · rintro ⟨⟨a, b⟩, c⟩
    refine ⟨⟨a, b⟩, fun q => ?_⟩
    rcases q.2 with r | ⟨r, r2⟩
    · exact c ⟨q.1, .inl r⟩
    · rcases strike_false.1 r2 with r2 | r2
      · exact c ⟨q.1, .inr ⟨r, r2⟩⟩
      · have := hone y a r2
        subst this
        rw [hg] at q
        exact absurd q.1 (by simp)
  · rintro ⟨⟨a, b⟩, c⟩
    exact ⟨⟨a, b⟩, fun q => c ⟨q.1, q.2.imp id (fun r => ⟨r.1, strike_false.2 (.inl r.2)⟩)⟩⟩
theorem LIn_other {ts : Int} {odd : Bool} {l : List Tk} {i j : Nat} {left left' : Lit → Bool} (h : j ≠ i) (y : Tk) : LIn ts odd l i left j y ↔ LIn ts odd l i left' j y := by
  constructor
  · rintro ⟨a, c⟩
    exact ⟨a, fun q => c ⟨q.1, q.2.elim .inl (fun r => absurd r.1 h)⟩⟩
  · rintro ⟨a, c⟩
    exact ⟨a, fun q => c ⟨q.1, q.2.elim .inl (fun r => absurd r.1 h)⟩⟩
theorem LIn_end {ts : Int} {odd : Bool} {l : List Tk} {i : Nat} {left : Lit → Bool} (hf : ∀ k, left k = false) (j : Nat) (y : Tk) : LIn ts odd l i left j y ↔ LO ts odd l (i + 1) j y := by
  constructor
  · rintro ⟨a, c⟩
    exact ⟨a, fun q => c ⟨q.1, by rcases Nat.lt_or_ge j i with d | d; exact .inl d; exact .inr ⟨by omega, hf _⟩⟩⟩
  · rintro ⟨a, c⟩
    exact ⟨a, fun q => c ⟨q.1, by omega⟩⟩
structure OLog (ts : Int) (odd : Bool) (l : List Tk) (ex : Prop) (sl0 : Nat → Option Slt) (i : Nat) (gl : Int) (sl : Nat → Option Slt) (xs : List Tk) : Prop where
  i4 : i ≤ 4096
  old : ∀ j, i ≤ j → sl j = sl0 j
  mem : ∀ y, y ∈ xs ↔ y ∈ l ∧ y.2 ≤ ts ∧ pos y.2 < i
  nd : xs.Nodup
  glM : gl ≤ mxT
  none : ∀ j, j < i → sl j = Option.none → ∀ y ∈ l, pos y.2 = j → goneB ts odd y = true
  low : ∀ j, j < i → ∀ s, sl j = some s → gl ≤ s.low ∧ s.low ≤ mxT ∧ ∀ y ∈ l, pos y.2 = j → goneB ts odd y = false → s.low ≤ y.2
  att : ex → (∀ j, j < i → ∀ s, sl j = some s → ∃ y ∈ l, pos y.2 = j ∧ goneB ts odd y = false ∧ y.2 = s.low) ∧ ((gl = mxT ∧ ∀ y ∈ l, pos y.2 < i → goneB ts odd y = true) ∨ ∃ y ∈ l, goneB ts odd y = false ∧ y.2 = gl)
section
variable {ts : Int} {odd : Bool} {l : List Tk} {ex : Prop} {sl0 sl : Nat → Option Slt} {i : Nat} {gl lo z : Int} {xs : List Tk} {left : Lit → Bool}
theorem OLog.start (sl0 : Nat → Option Slt) (l : List Tk) (ts : Int) (odd : Bool) (ex : Prop) : OLog ts odd l ex sl0 0 mxT sl0 [] :=
  ⟨Nat.zero_le _, fun _ _ => rfl, fun y => ⟨fun h => by simp at h, fun h => absurd h.2.2 (Nat.not_lt_zero _)⟩, List.nodup_nil, Int.le_refl _, fun j hj => absurd hj (Nat.not_lt_zero _), fun j hj => absurd hj (Nat.not_lt_zero _),
   fun _ => ⟨fun j hj => absurd hj (Nat.not_lt_zero _), .inl ⟨rfl, fun y _ h => absurd h (Nat.not_lt_zero _)⟩⟩⟩
theorem OLog.nil (h : OLog ts odd l ex sl0 i gl sl xs) (hW : WLog lo sl0 l ex) (hi : i < 4096) (hs : sl0 i = Option.none) : OLog ts odd l ex sl0 (i + 1) gl sl xs := by
  have hno := hW.none i hi hs
  refine ⟨hi, fun j hj => h.old j (by omega), fun y => (h.mem y).trans ⟨fun ⟨a, b, c⟩ => ⟨a, b, by omega⟩, fun ⟨a, b, c⟩ => ⟨a, b, by have := hno y a; omega⟩⟩, h.nd, h.glM, fun j hj hn y hy hp => ?_, fun j hj s hn => ?_, fun q => ⟨fun j hj s hn => ?_, ?_⟩⟩
  · rcases Nat.lt_or_ge j i with c | c
    · exact h.none j c hn y hy hp
    · exact absurd hp (by have : j = i := by omega
                          rw [this]; exact hno y hy)
  · rcases Nat.lt_or_ge j i with c | c
    · exact h.low j c s hn
    · have e : j = i := by omega
      rw [e, h.old i (Nat.le_refl _), hs] at hn
      cases hn
  · rcases Nat.lt_or_ge j i with c | c
    · exact (h.att q).1 j c s hn
    · have e : j = i := by omega
      rw [e, h.old i (Nat.le_refl _), hs] at hn
      cases hn
  · exact (h.att q).2.imp (fun ⟨a, b⟩ => ⟨a, fun y hy hp => b y hy (by have := hno y hy; omega)⟩) id
theorem OLog.far (h : OLog ts odd l ex sl0 i gl sl xs) (hW : WLog lo sl0 l ex) (hi : i < 4096) {s : Slt} (hs : sl0 i = some s) (hf : ts < s.low) {gl' : Int} (hg : gl' = if s.low < gl then s.low else gl) : OLog ts odd l ex sl0 (i + 1) gl' sl xs := by
  obtain ⟨l1, l2, l3⟩ := hW.low i hi s hs
  have hgl := h.glM
  have hle : gl' ≤ gl ∧ gl' ≤ s.low := by rw [hg]; split <;> omega
  refine ⟨hi, fun j hj => h.old j (by omega), fun y => (h.mem y).trans ⟨fun ⟨a, b, c⟩ => ⟨a, b, by omega⟩, fun ⟨a, b, c⟩ => ⟨a, b, by have := l3 y a; omega⟩⟩, h.nd, by omega, fun j hj hn y hy hp => ?_, fun j hj t hn => ?_, fun q => ⟨fun j hj t hn => ?_, ?_⟩⟩
  · rcases Nat.lt_or_ge j i with c | c
    · exact h.none j c hn y hy hp
    · have e : j = i := by omega
      rw [e, h.old i (Nat.le_refl _), hs] at hn
      cases hn
  · rcases Nat.lt_or_ge j i with c | c
    · obtain ⟨a, b, d⟩ := h.low j c t hn
      exact ⟨by omega, b, d⟩
    · have e : j = i := by omega
      rw [e, h.old i (Nat.le_refl _), hs] at hn
      injection hn with hn
      subst hn
      exact ⟨hle.2, l2, fun y hy hp _ => l3 y hy (hp.trans e)⟩
  · rcases Nat.lt_or_ge j i with c | c
    · exact (h.att q).1 j c t hn
    · have e : j = i := by omega
      rw [e, h.old i (Nat.le_refl _), hs] at hn
      injection hn with hn
      subst hn
      obtain ⟨y, hy, hp, hv⟩ := (hW.att q).1 i hi s hs
      refine ⟨y, hy, hp.trans e.symm, ?_, hv⟩
      simp only [goneB, Bool.and_eq_false_iff, decide_eq_false_iff_not]
      exact .inl (by omega)
  · obtain ⟨y, hy, hp, hv⟩ := (hW.att q).1 i hi s hs
    have hgy : goneB ts odd y = false := by
      simp only [goneB, Bool.and_eq_false_iff, decide_eq_false_iff_not]
      exact .inl (by omega)
    by_cases c : s.low < gl
    · rw [if_pos c] at hg
      exact .inr ⟨y, hy, hgy, hv.trans hg.symm⟩
    · rw [if_neg c] at hg
      rw [hg]
      rcases (h.att q).2 with ⟨a, b⟩ | b
      · refine .inr ⟨y, hy, hgy, ?_⟩
        have hmx : mxT = 9223372036854775807 := rfl
        omega
      · exact .inr b
theorem OLog.into (h : OLog ts odd l ex sl0 i gl sl xs) (hl : ∀ y ∈ l, pos y.2 = i → left (kL y.1) = true) : InLog ts odd l i left xs mxT :=
  ⟨fun y => (h.mem y).trans ⟨fun ⟨a, b, c⟩ => ⟨a, b, .inl c⟩, fun ⟨a, b, c⟩ => ⟨a, b, c.elim id (fun q => absurd q.2 (by rw [hl y a q.1]; simp))⟩⟩, h.nd, Int.le_refl _, fun y hy hp hf => absurd hf (by rw [hl y hy hp]; simp), .inl ⟨rfl, fun y hy hp hf => absurd hf (by rw [hl y hy hp]; simp)⟩⟩
theorem InLog.all (hI : InLog ts odd l i left xs z) (hf : ∀ k, left k = false) : ∀ y, y ∈ xs ↔ y ∈ l ∧ y.2 ≤ ts ∧ pos y.2 < i + 1 := fun y => (hI.mem y).trans
  ⟨fun ⟨a, b, c⟩ => ⟨a, b, by omega⟩, fun ⟨a, b, c⟩ => ⟨a, b, by
    rcases Nat.lt_or_ge (pos y.2) i with d | d
    · exact .inl d
    · exact .inr ⟨by omega, hf _⟩⟩⟩
theorem OLog.empty {xs' : List Tk} (h : OLog ts odd l ex sl0 i gl sl xs) (hi : i < 4096) (hI : InLog ts odd l i left xs' z) (hf : ∀ k, left k = false) (hn : ∀ y ∈ l, pos y.2 = i → goneB ts odd y = true) : OLog ts odd l ex sl0 (i + 1) gl (upd sl i Option.none) xs' := by
  refine ⟨hi, fun j hj => (upd_other _ _ (by omega)).trans (h.old j (by omega)), hI.all hf, hI.nd, h.glM, fun j hj hs y hy hp => ?_, fun j hj t hs => ?_, fun q => ⟨fun j hj t hs => ?_, ?_⟩⟩
  · rcases Nat.lt_or_ge j i with c | c
    · rw [upd_other _ _ (by omega)] at hs
      exact h.none j c hs y hy hp
    · exact hn y hy (by omega)
  · rcases Nat.lt_or_ge j i with c | c
    · rw [upd_other _ _ (by omega)] at hs
      exact h.low j c t hs
    · have e : j = i := by omega
      rw [e, upd_same] at hs
      cases hs
  · rcases Nat.lt_or_ge j i with c | c
    · rw [upd_other _ _ (by omega)] at hs
      exact (h.att q).1 j c t hs
    · have e : j = i := by omega
      rw [e, upd_same] at hs
      cases hs
  · refine (h.att q).2.imp (fun ⟨a, b⟩ => ⟨a, fun y hy hp => ?_⟩) id
    rcases Nat.lt_or_ge (pos y.2) i with c | c
    · exact b y hy c
    · exact hn y hy (by omega)
theorem OLog.due {xs' : List Tk} (h : OLog ts odd l ex sl0 i gl sl xs) (hW : WLog lo sl0 l ex) (hi : i < 4096) (hI : InLog ts odd l i left xs' z) (hf : ∀ k, left k = false) (hn : ∃ y ∈ l, pos y.2 = i ∧ goneB ts odd y = false) (b m : Nat) {gl' : Int} (hg : gl' = if z < gl then z else gl) :
    OLog ts odd l ex sl0 (i + 1) gl' (upd sl i (some ⟨b, m, z⟩)) xs' := by
  have hgl := h.glM
  have hz := hI.zM
  have hle : gl' ≤ gl ∧ gl' ≤ z := by rw [hg]; split <;> omega
  have hat : ∃ y ∈ l, pos y.2 = i ∧ goneB ts odd y = false ∧ y.2 = z := by
    rcases hI.zat with ⟨a, c⟩ | q
    · obtain ⟨y, hy, hp, hgy⟩ := hn
      exact absurd (c y hy hp (hf _)) (by rw [hgy]; simp)
    · exact q
  refine ⟨hi, fun j hj => (upd_other _ _ (by omega)).trans (h.old j (by omega)), hI.all hf, hI.nd, by omega, fun j hj hs y hy hp => ?_, fun j hj t hs => ?_, fun q => ⟨fun j hj t hs => ?_, ?_⟩⟩
  · rcases Nat.lt_or_ge j i with c | c
    · rw [upd_other _ _ (by omega)] at hs
      exact h.none j c hs y hy hp
    · have e : j = i := by omega
      rw [e, upd_same] at hs
      cases hs
  · rcases Nat.lt_or_ge j i with c | c
    · rw [upd_other _ _ (by omega)] at hs
      obtain ⟨a1, a2, a3⟩ := h.low j c t hs
      exact ⟨by omega, a2, a3⟩
    · have e : j = i := by omega
      rw [e, upd_same] at hs
      injection hs with hs
      subst hs
      exact ⟨hle.2, hz, fun y hy hp hgy => hI.zle y hy (hp.trans e) (hf _) hgy⟩
  · rcases Nat.lt_or_ge j i with c | c
    · rw [upd_other _ _ (by omega)] at hs
      exact (h.att q).1 j c t hs
    · have e : j = i := by omega
      rw [e, upd_same] at hs
      injection hs with hs
      subst hs
      obtain ⟨y, hy, hp, hgy, hv⟩ := hat
      exact ⟨y, hy, hp.trans e.symm, hgy, hv⟩
  · by_cases c : z < gl
    · rw [if_pos c] at hg
      obtain ⟨y, hy, hp, hgy, hv⟩ := hat
      exact .inr ⟨y, hy, hgy, hv.trans hg.symm⟩
    · rw [if_neg c] at hg
      rw [hg]
      rcases (h.att q).2 with ⟨a, d⟩ | d
      · obtain ⟨y, hy, hp, hgy, hv⟩ := hat
        exact .inr ⟨y, hy, hgy, by omega⟩
      · exact .inr d
/-- What stays, and what has expired. -/
def stayL (ts : Int) (odd : Bool) (l : List Tk) : List Tk := l.filter (fun y => !goneB ts odd y)
def dueL (ts : Int) (l : List Tk) : List Tk := l.filter (fun y => decide (y.2 ≤ ts))
theorem mem_stayL {y : Tk} : y ∈ stayL ts odd l ↔ y ∈ l ∧ goneB ts odd y = false := by simp [stayL]
theorem mem_dueL {y : Tk} : y ∈ dueL ts l ↔ y ∈ l ∧ y.2 ≤ ts := by simp [dueL]
theorem OLog.perm (h : OLog ts odd l ex sl0 4096 gl sl xs) (hk : (l.map (·.1)).Nodup) : xs.Perm (dueL ts l) := by
  refine (List.perm_ext_iff_of_nodup h.nd ((nodup_of_keys hk).sublist List.filter_sublist)).2 (fun y => ?_)
  show y ∈ xs ↔ y ∈ dueL ts l
  rw [mem_dueL, h.mem y]
  exact ⟨fun q => ⟨q.1, q.2.1⟩, fun q => ⟨q.1, q.2, pos_lt _⟩⟩
theorem len_split (p : Tk → Bool) : ∀ l : List Tk, (l.filter p).length + (l.filter (fun y => !p y)).length = l.length
  | [] => rfl
  | y :: l => by
    have := len_split p l
    cases h : p y
    · rw [List.filter_cons_of_neg (by rw [h]; simp), List.filter_cons_of_pos (by rw [h]; rfl), List.length_cons, List.length_cons]
      omega
    · rw [List.filter_cons_of_pos h, List.filter_cons_of_neg (by rw [h]; simp), List.length_cons, List.length_cons]
      omega
theorem OLog.cnt (h : OLog ts odd l ex sl0 4096 gl sl xs) (hk : (l.map (·.1)).Nodup) : cntv ts odd l xs = ((stayL ts odd l).length : Int) := by
  have h1 : (xs.filter (goneB ts odd)).length = (l.filter (goneB ts odd)).length := by
    rw [((h.perm hk).filter (goneB ts odd)).length_eq, dueL, List.filter_filter]
    congr 1
    refine List.filter_congr (fun y _ => ?_)
    simp only [goneB]
    cases decide (y.2 ≤ ts) <;> simp
  have h2 := len_split (goneB ts odd) l
  unfold cntv stayL
  rw [h1]
  omega
theorem OLog.done (h : OLog ts odd l ex sl0 4096 gl sl xs) (hW : WLog lo sl0 l ex) : WLog gl sl (stayL ts odd l) ex := by
  refine ⟨fun y hy => hW.all y (mem_stayL.1 hy).1, hW.nd.sublist (List.filter_sublist.map _), Nat.le_trans (List.length_filter_le _ _) hW.len, h.glM, fun i hi hn y hy hp => ?_, fun i hi s hs => ?_, fun q => ⟨fun i hi s hs => ?_, ?_⟩⟩
  · obtain ⟨a, b⟩ := mem_stayL.1 hy
    exact absurd (h.none i hi hn y a hp) (by rw [b]; simp)
  · obtain ⟨a, b, c⟩ := h.low i hi s hs
    exact ⟨a, b, fun y hy hp => c y (mem_stayL.1 hy).1 hp (mem_stayL.1 hy).2⟩
  · obtain ⟨y, hy, hp, hg, hv⟩ := (h.att q).1 i hi s hs
    exact ⟨y, mem_stayL.2 ⟨hy, hg⟩, hp, hv⟩
  · rcases (h.att q).2 with ⟨a, b⟩ | ⟨y, hy, hg, hv⟩
    · refine .inl ⟨?_, a⟩
      apply List.eq_nil_iff_forall_not_mem.2
      intro y hy
      obtain ⟨c, d⟩ := mem_stayL.1 hy
      exact absurd (b y c (pos_lt _)) (by rw [d]; simp)
    · exact .inr ⟨y, mem_stayL.2 ⟨hy, hg⟩, hv⟩
end
/-! ### impl.turn's function: what expires is put down; does it go? -/
def kT : Kd Tk := Kd.pair (Kd.int .u64) (Kd.int .i64)
theorem kT_mkM (w : World) (base : Nat) (ok : Nat → Prop) (x e : Int) : kT.M w base ok (x, e) [.int .u64 x, .int .i64 e] := ⟨[.int .u64 x], [.int .i64 e], rfl, rfl, rfl⟩
theorem infoT : (Tryd.prog.info? 39).map (fun i => (i.zero, i.size, i.bytes)) = some (some (.agg #[(.int .u64 0), (.int .i64 0)]), 2, 16) := by kernel_rfl
def cellsT (op sq ex nw : Int) (odd : Bool) : Array Value := #[.int .i64 op, .int .u64 sq, .int .i64 ex, .int .i64 nw, .bool odd]
structure CloI (base ab tb : Nat) (kd : Int) (tc : Array Value) (xs : List Tk) (w : World) : Prop where
  size : base ≤ w.heap.size
  labl : ab < base
  ltbl : tb < base
  ne : ab ≠ tb
  tcl : w.heap[tb]? = some (.cells tc 34 (0, 0))
  ans : ∃ sv, w.heap[ab]? = some (.cells #[.int .i64 kd, sv] 37 (0, 0)) ∧ Kd.R kT 39 w base (fun k => base ≤ k) sv xs
/-- What the function leaves as it is. -/
structure ClF (base ab : Nat) (w w' : World) : Prop where
  os : w'.os = w.os
  tape : w'.tape = w.tape
  output : w'.output = w.output
  size : w.heap.size ≤ w'.heap.size
  keep : ∀ (k : Nat) (o : Obj), w.heap[k]? = some o → (wk o = true ∨ k < base) → k ≠ ab → w'.heap[k]? = some o
theorem ClF.refl (base ab : Nat) (w : World) : ClF base ab w w := ⟨rfl, rfl, rfl, Nat.le_refl _, fun _ _ h _ _ => h⟩
set_option maxHeartbeats 16000000 in
set_option maxRecDepth 100000 in
theorem clo_calls (base ab tb : Nat) (kd op sq ex nw : Int) (odd : Bool) (xs : List Tk) (x e : Int) (w : World) (hI : CloI base ab tb kd (cellsT op sq ex nw odd) xs w) (hl : xs.length < 10000000) (hx : wfU x) :
    Calls Tryd.prog 30 #[.int .u64 x, .int .i64 e, .pointer (some ⟨ab, 0, none⟩), .pointer (some ⟨tb, 0, none⟩)] w fun en w' => en = .returned (.bool (goesB odd x)) ∧ CloI base ab tb kd (cellsT op sq ex nw odd) (xs ++ [(x, e)]) w' ∧ ClF base ab w w' := by
  obtain ⟨hsz, hab, htb, hne, htc, sv, hans, hR⟩ := hI
  have k1 : w.cell? ⟨ab, 1, none⟩ = some sv := (cell_of_row w ab 1 _ _ _ hans).trans rfl
  obtain ⟨gb, hgb⟩ : ∃ b, b = goesB odd x := ⟨_, rfl⟩
  rw [← hgb]
  have HB := Aside0.mk (And.intro hsz (And.intro hab (And.intro htb (And.intro hne (And.intro htc (And.intro hans (And.intro hR (And.intro hl hx))))))))
  have HGB := Aside0.mk hgb
  clear hsz hab htb hne htc hans hR hl hx hgb
  go_enter Tryd.func30, Tryd.ntmps30
  go_upto_region 2 with (first | ((with_reducible refine gate_builtin (b := .append) (xs := #[.tmp 8, .tmp 12]) rfl ?_); at_builtin; refine Kd.R_append kT (w0 := w) base rfl (.tmp 8) (.tmp 12) 25 39 (.agg #[(.int .u64 0), (.int .i64 0)]) 16 rfl Tryd.underlying25 infoT rfl (by decide) (by decide) sv xs (x, e) [.int .u64 x, .int .i64 e] (fun k => base ≤ k) (fun _ => False) rfl rfl (kT_mkM _ _ _ _ _) (fun _ hk => hk.elim) (fun k hk => Nat.le_trans HB.out.1 hk) HB.out.2.2.2.2.2.2.1 (Below.refl _ _) HB.out.1 (by have := HB.out.2.2.2.2.2.2.2.1; omega) ?_; intro v1 w1 ho hb1 hg hat; obtain ⟨A1, c1, hv1⟩ := Kd.R_slice ho; rw [List.length_append, List.length_singleton] at hv1; subst hv1; have kk1 : w1.cell? ⟨ab, 1, none⟩ = some sv := (cell_same (hb1.block ab HB.out.2.1) 1).trans k1; have ff1 : w1.frozen? ⟨ab, 1, none⟩ = false := (Road.frozen_of_heap ((hb1.block ab HB.out.2.1).trans HB.out.2.2.2.2.2.1)); have H1 := Aside0.mk (And.intro ho (And.intro hb1 (And.intro hg hat))); clear ho hb1 hg hat) | go_in)
  obtain ⟨hsz, hab, htb, hne, htc, hans, hR, hl, hx⟩ := HB.out
  obtain ⟨ho, hb1, hg, hat⟩ := H1.out
  have q1 : w1.heap[ab]? = some (.cells #[.int .i64 kd, sv] 37 (0, 0)) := (hb1.block ab hab).trans hans
  obtain ⟨W2, hW2⟩ : ∃ W2, W2 = w1.setCell ⟨ab, 1, none⟩ (.slice A1 (xs.length + 1) c1) := ⟨_, rfl⟩
  rw [← hW2]
  have q2 : W2.heap[ab]? = some (.cells #[.int .i64 kd, .slice A1 (xs.length + 1) c1] 37 (0, 0)) := by
    rw [hW2]
    exact Road.setCell_same_heap 1 _ q1
  have qo : ∀ k, k ≠ ab → W2.heap[k]? = w1.heap[k]? := fun k hk => by
    rw [hW2]
    exact Road.setCell_other_heap w1 1 _ (Ne.symm hk)
  have z2 : W2.heap.size = w1.heap.size := by rw [hW2]; simp [World.setCell]
  have hI2 : CloI base ab tb kd (cellsT op sq ex nw odd) (xs ++ [(x, e)]) W2 := ⟨by rw [z2]; exact Nat.le_trans hsz hb1.size, hab, htb, hne, (qo tb (Ne.symm hne)).trans ((hb1.block tb htb).trans htc), _, q2, Kd.R_step ho (fun k hk _ => qo k (by omega))⟩
  have hF : ClF base ab w W2 := by
    refine ⟨by rw [hW2]; simp [World.setCell, hb1.os], by rw [hW2]; simp [World.setCell, hb1.tape], by rw [hW2]; simp [World.setCell, hb1.output], by rw [z2]; exact hb1.size, fun k o ho' hk hka => ?_⟩
    rw [qo k hka]
    rcases hk with hk | hk
    · rw [hg.block k (Array.getElem?_eq_some_iff.1 ho').1 (fun e => ?_)]
      · exact ho'
      · obtain ⟨inner, hown⟩ := Kd.R_own hR
        obtain ⟨cells, hc⟩ := own_typed hown k e.symm
        rw [hc] at ho'
        injection ho' with ho'
        rw [← ho'] at hk
        exact absurd hk (by simp [wk])
    · exact (hb1.block k hk).trans ho'
  have k2 : W2.cell? ⟨tb, 4, none⟩ = some (.bool odd) := (cell_of_row W2 tb 4 _ _ _ hI2.tcl).trans rfl
  have H2 := Aside0.mk (And.intro hI2 hF)
  have HX := Aside0.mk hx
  clear hsz hab htb hne htc hans hR hl hx ho hb1 hg hat q1 q2 qo z2 hI2 hF hW2 H1 HB k1
  cases odd with
  | false =>
    go_wp2_with fail
    go_ret
    exact ⟨by rw [HGB.out]; rfl, H2.out.1, H2.out.2⟩
  | true =>
    have e1 : x.tmod 2 = x % 2 := Int.tmod_eq_emod_of_nonneg HX.out.1
    have e2 : IntKind.u64.wrap (x % 2) = x % 2 := Road.wu64 _ _ rfl (by omega) (by omega)
    go_wp2_with fail
    go_ret
    exact ⟨by rw [HGB.out]; rfl, H2.out.1, H2.out.2⟩
/-! ### expireTasks -/
/-- What an expiry leaves as it is: what lies below B; and what is no wheel's, but the answer's block. -/
structure ChE (B base ab : Nat) (w w' : World) : Prop where
  os : w'.os = w.os
  tape : w'.tape = w.tape
  output : w'.output = w.output
  size : w.heap.size ≤ w'.heap.size
  low : ∀ k, k < B → k < w.heap.size → w'.heap[k]? = w.heap[k]?
  typ : ∀ (k : Nat) (o : Obj), w.heap[k]? = some o → wk o = false → k < base → k ≠ ab → w'.heap[k]? = some o
theorem ChE.refl (B base ab : Nat) (w : World) : ChE B base ab w w := ⟨rfl, rfl, rfl, Nat.le_refl _, fun _ _ _ => rfl, fun _ _ h _ _ _ => h⟩
theorem ChE.trans {B base ab : Nat} {a b c : World} (h : ChE B base ab a b) (k : ChE B base ab b c) : ChE B base ab a c :=
  ⟨k.os.trans h.os, k.tape.trans h.tape, k.output.trans h.output, Nat.le_trans h.size k.size, fun i hi hs => (k.low i hi (Nat.lt_of_lt_of_le hs h.size)).trans (h.low i hi hs), fun i o ho hk h1 h2 => k.typ i o (h.typ i o ho hk h1 h2) hk h1 h2⟩
theorem chW_toE {B base ab : Nat} {w w' : World} (h : ChW B w w') : ChE B base ab w w' := ⟨h.os, h.tape, h.output, h.size, h.low, fun k o ho hk _ _ => h.typ k o ho hk⟩
theorem clF_toE {B base ab : Nat} {w w' : World} (h : ClF base ab w w') (hB : B ≤ base) (hab : B ≤ ab) : ChE B base ab w w' :=
  ⟨h.os, h.tape, h.output, h.size, fun k hk hs => by
    obtain ⟨o, ho⟩ : ∃ o, w.heap[k]? = some o := ⟨_, Array.getElem?_eq_getElem hs⟩
    rw [ho]
    exact h.keep k o ho (.inr (by omega)) (by omega), fun k o ho _ h1 h2 => h.keep k o ho (.inr h1) h2⟩
theorem ranges_keep {w w' : World} {m r n cnt : Nat} {D : DataW Unit} {left : Lit → Bool} (h : w.ranges Tryd.prog 32 (plainElem Tryd.prog 2) m r n D left cnt) (hm : w'.heap[m]? = w.heap[m]?) (hr : w'.heap[r]? = w.heap[r]?) :
    w'.ranges Tryd.prog 32 (plainElem Tryd.prog 2) m r n D left cnt := by
  obtain ⟨es, clock, since, seen, c0, h1, h2, h3, h4, h5, h6⟩ := h
  exact ⟨es, clock, since, seen, c0, hm.trans h1, h2, h3, h4, hr.trans h5, h6⟩
theorem ranges_objs {w : World} {m r n cnt : Nat} {D : DataW Unit} {left : Lit → Bool} (h : w.ranges Tryd.prog 32 (plainElem Tryd.prog 2) m r n D left cnt) : (∃ o, w.heap[r]? = some o ∧ wk o = true ∧ wm o = false) ∧ ∃ o, w.heap[m]? = some o ∧ wk o = true := by
  obtain ⟨es, clock, since, seen, c0, h1, h2, h3, h4, h5, h6⟩ := h
  exact ⟨⟨_, h5, rfl, rfl⟩, ⟨_, h1, rfl⟩⟩
theorem CloI.keep {base ab tb : Nat} {kd : Int} {tc : Array Value} {xs : List Tk} {w w' : World} (h : CloI base ab tb kd tc xs w) (hs : w.heap.size ≤ w'.heap.size) (hk : ∀ (k : Nat) (o : Obj), w.heap[k]? = some o → wk o = false → w'.heap[k]? = some o) : CloI base ab tb kd tc xs w' := by
  obtain ⟨h1, h2, h3, h4, h5, sv, h6, h7⟩ := h
  refine ⟨Nat.le_trans h1 hs, h2, h3, h4, hk _ _ h5 rfl, sv, hk _ _ h6 rfl, ?_⟩
  refine Kd.R_mono (Kd.R_move (Kd.R_bound h7) (fun k hk' => ?_)) (fun _ q => q.1)
  obtain ⟨_, _, _, q, hq, cells, hc⟩ := hk'
  rw [hc]
  refine hk k _ hc ?_
  have : q = 39 := by simpa [kT, Kd.pair, Kd.int, Kd.scalar] using hq
  rw [this]
  rfl
theorem CloI.chW {base ab tb B : Nat} {kd : Int} {tc : Array Value} {xs : List Tk} {w w' : World} (h : CloI base ab tb kd tc xs w) (hc : ChW B w w') : CloI base ab tb kd tc xs w' := h.keep hc.size hc.typ
structure OutS (N B hb wb : Nat) (lo : Int) (l : List Tk) (ts : Int) (odd : Bool) (ex : Prop) (sl0 : Nat → Option Slt) (base ab tb : Nat) (kd : Int) (tc : Array Value) (w0 : World) (i : Nat) (gl : Int) (sl : Nat → Option Slt) (xs : List Tk) (w : World) : Prop where
  mem : WMem N w B hb wb lo (cntv ts odd l xs) sl (LO ts odd l i)
  log : OLog ts odd l ex sl0 i gl sl xs
  clo : CloI base ab tb kd tc xs w
  ch : ChE B base ab w0 w
structure InS (N B hb wb : Nat) (lo : Int) (l : List Tk) (ts : Int) (odd : Bool) (base ab tb : Nat) (kd : Int) (tc : Array Value) (w0 : World) (i : Nat) (sl : Nat → Option Slt) (m r : Nat) (left : Lit → Bool) (cnt : Nat) (z : Int) (xs : List Tk) (D : DataW Unit) (w : World) : Prop where
  rng : w.ranges Tryd.prog 32 (plainElem Tryd.prog 2) m r N D left cnt
  map : MapIs D (LIn ts odd l i left i)
  mem : WMem N w B hb wb lo (cntv ts odd l xs) sl (LIn ts odd l i left)
  log : InLog ts odd l i left xs z
  clo : CloI base ab tb kd tc xs w
  ch : ChE B base ab w0 w
def ExpPost (N B hb : Nat) (ex : Prop) (l : List Tk) (ts : Int) (odd : Bool) (base ab tb : Nat) (kd : Int) (tc : Array Value) (w w' : World) : Prop := ∃ xs, WheelAt N w' B hb ex (stayL ts odd l) ∧ xs.Perm (dueL ts l) ∧ CloI base ab tb kd tc xs w' ∧ ChE B base ab w w'
set_option maxHeartbeats 40000000 in
set_option maxRecDepth 100000 in
theorem exp_calls (N B hb : Nat) (ex : Prop) (l : List Tk) (base ab tb : Nat) (kd op sq exx nw : Int) (odd : Bool) (ts : Int) (w : World) (h : WheelAt N w B hb ex l) (hB : B ≤ base) (hBa : B ≤ ab) (hbs : base ≤ w.heap.size) (hC : CloI base ab tb kd (cellsT op sq exx nw odd) [] w) :
    Calls Tryd.prog 40 #[.pointer (some ⟨hb, 0, none⟩), .int .i64 ts, .func (.func 30) #[] #[.pointer (some ⟨ab, 0, none⟩), .pointer (some ⟨tb, 0, none⟩)]] w fun en w' => en = .returned (.tuple #[]) ∧ ExpPost N B hb ex l ts odd base ab tb kd (cellsT op sq exx nw odd) w w' := by
  obtain ⟨wb, lo, sl0, hM, hL⟩ := h
  obtain ⟨TC, hTC⟩ : ∃ x, x = cellsT op sq exx nw odd := ⟨_, rfl⟩
  have hclo : ∀ (xs : List Tk) (x e : Int) (w1 : World), CloI base ab tb kd TC xs w1 → xs.length < 10000000 → wfU x → Calls Tryd.prog 30 #[.int .u64 x, .int .i64 e, .pointer (some ⟨ab, 0, none⟩), .pointer (some ⟨tb, 0, none⟩)] w1 fun en w' => en = .returned (.bool (goesB odd x)) ∧ CloI base ab tb kd TC (xs ++ [(x, e)]) w' ∧ ClF base ab w1 w' := fun xs x e w1 h1 h2 h3 => by
    rw [hTC] at h1 ⊢
    exact clo_calls base ab tb kd op sq exx nw odd xs x e w1 h1 h2 h3
  rw [← hTC] at hC ⊢
  have c0 : w.cell? ⟨hb, 0, none⟩ = some (.slice (some ⟨wb, 0, none⟩) 4096 4096) := (cell_of_row w hb 0 _ _ _ hM.hd).trans rfl
  have c1 : w.cell? ⟨hb, 1, none⟩ = some (.int .i64 lo) := (cell_of_row w hb 1 _ _ _ hM.hd).trans rfl
  have HCL := Aside0.mk hclo
  have HA := Aside0.mk (And.intro hM (And.intro hL (And.intro hB (And.intro hBa (And.intro hbs hC)))))
  clear hTC hclo hM hL hB hBa hbs hC
  by_cases hlt : ts < lo
  · have q1 := eq_true hlt
    have q2 : decide (ts < lo) = true := decide_eq_true hlt
    have HLT := Aside0.mk hlt
    clear hlt
    go_enter Tryd.func40, Tryd.ntmps40
    go_wp2_with fail
    refine bodyPost_ret (results_none rfl _ _ _) rfl ?_
    obtain ⟨hM, hL, hB, hBa, hbs, hC⟩ := HA.out
    have hall : ∀ y ∈ l, ts < y.2 := fun y hy => by
      cases hs : sl0 (pos y.2) with
      | none => exact absurd rfl (hL.none _ (pos_lt _) hs y hy)
      | some s =>
        obtain ⟨a, _, c⟩ := hL.low _ (pos_lt _) s hs
        have := c y hy rfl
        have := HLT.out
        omega
    have e1 : stayL ts odd l = l := by
      unfold stayL
      apply List.filter_eq_self.2
      intro y hy
      have := hall y hy
      simp only [goneB, Bool.not_eq_true', Bool.and_eq_false_iff, decide_eq_false_iff_not]
      exact .inl (by omega)
    have e2 : dueL ts l = [] := by
      unfold dueL
      apply List.filter_eq_nil_iff.2
      intro y hy
      have := hall y hy
      simp only [decide_eq_true_eq]
      omega
    refine ⟨rfl, [], ?_, by rw [e2], hC, ChE.refl _ _ _ _⟩
    rw [e1]
    exact ⟨wb, lo, sl0, hM, hL⟩
  · have q1 := eq_false hlt
    have q2 : decide (ts < lo) = false := decide_eq_false hlt
    clear hlt
    go_enter Tryd.func40, Tryd.ntmps40
    go_wp2_with fail
    go_loopw [6, 25] (fun v6 v25 wr => ∃ (i : Nat) (gl : Int) (sl : Nat → Option Slt) (xs : List Tk), v6 = .int .i64 gl ∧ v25 = .int .i64 (i : Int) ∧ Aside0 (OutS N B hb wb lo l ts odd ex sl0 base ab tb kd TC w i gl sl xs wr)) (fun _ v25 _ => Road.leftOf 4096 v25)
    case atStart =>
      obtain ⟨hM, hL, hB, hBa, hbs, hC⟩ := HA.out
      refine ⟨0, mxT, sl0, [], rfl, rfl, ⟨?_, OLog.start _ _ _ _ _, hC, ChE.refl _ _ _ _⟩⟩
      have e : cntv ts odd l [] = (l.length : Int) := by unfold cntv; simp
      rw [e]
      exact hM.congr (fun j y => ⟨fun q => ⟨q, fun q2 => absurd q2.2 (Nat.not_lt_zero _)⟩, fun q => q.1⟩)
    case round =>
      obtain ⟨i, gl, sl, xs, rfl, rfl, HO⟩ := hrel
      clear c0 c1 q1 q2
      rcases Nat.lt_or_ge i 4096 with hi | hi
      · have i1 := eq_true (show (i : Int) < 4096 by omega)
        have i2 := eq_true hi
        have hsi : sl i = sl0 i := HO.out.log.old i (Nat.le_refl _)
        have wi : wrap64 ((i : Int) + 1) = ((i + 1 : Nat) : Int) := Road.wrap_nat i (by omega)
        have HWI := Aside0.mk wi
        clear wi
        cases hs0 : sl0 i with
        | none =>
          have cp : wr.cell? ⟨wb, i, none⟩ = some (.pointer none) := (cell_of_row wr wb i _ _ _ HO.out.mem.row).trans ((rowOf_get sl i hi).trans (by rw [hsi, hs0]; rfl))
          have HS0 := Aside0.mk hs0
          clear hs0 hsi hi
          go_wp2_with fail
          go_roundw
          case rel =>
            obtain ⟨m1, l1, k1, e1⟩ := HO.out
            have hi := of_eq_true i2
            have hno := HA.out.2.1.none i hi HS0.out
            refine ⟨i + 1, gl, sl, xs, rfl, congrArg (Value.int .i64) HWI.out, ⟨m1.congr (fun j y => ?_), l1.nil HA.out.2.1 hi HS0.out, k1, e1⟩⟩
            constructor
            · rintro ⟨⟨a, b⟩, c⟩
              exact ⟨⟨a, b⟩, fun q => c ⟨q.1, by have := hno y a; omega⟩⟩
            · rintro ⟨⟨a, b⟩, c⟩
              exact ⟨⟨a, b⟩, fun q => c ⟨q.1, by omega⟩⟩
          case measure => rw [HWI.out]; exact Road.leftOf_lt (of_eq_true i2)
        | some s =>
          have cp : wr.cell? ⟨wb, i, none⟩ = some (.pointer (some ⟨s.b, 0, none⟩)) := (cell_of_row wr wb i _ _ _ HO.out.mem.row).trans ((rowOf_get sl i hi).trans (by rw [hsi, hs0]; rfl))
          have hsc := (HO.out.mem.slot i hi s (hsi.trans hs0)).2.2.1
          have k1 : wr.cell? ⟨s.b, 1, none⟩ = some (.int .i64 s.low) := (cell_of_row wr s.b 1 _ _ _ hsc).trans rfl
          have k0 : wr.cell? ⟨s.b, 0, none⟩ = some (.map (some s.m)) := (cell_of_row wr s.b 0 _ _ _ hsc).trans rfl
          have HS0 := Aside0.mk (And.intro hs0 (And.intro hsi hsc))
          clear hs0 hsi hi hsc
          by_cases hf : ts < s.low
          · have q1 := eq_true hf
            have q2 : decide (ts < s.low) = true := decide_eq_true hf
            have HF := Aside0.mk hf
            clear hf
            obtain ⟨gl2, hgl2⟩ : ∃ z, z = (if s.low < gl then s.low else gl) := ⟨_, rfl⟩
            have HG := Aside0.mk hgl2
            clear hgl2
            have fin : OutS N B hb wb lo l ts odd ex sl0 base ab tb kd TC w (i + 1) gl2 sl xs wr := by
              obtain ⟨m1, l1, k1, e1⟩ := HO.out
              have hi := of_eq_true i2
              have hno := (HA.out.2.1.low i hi s HS0.out.1).2.2
              refine ⟨m1.congr (fun j y => ?_), l1.far HA.out.2.1 hi HS0.out.1 HF.out HG.out, k1, e1⟩
              constructor
              · rintro ⟨⟨a, b⟩, c⟩
                refine ⟨⟨a, b⟩, fun q => c ⟨q.1, ?_⟩⟩
                have h1 := hno y a
                have h2 := (goneB_iff.1 q.1).1
                have h3 := HF.out
                omega
              · rintro ⟨⟨a, b⟩, c⟩
                exact ⟨⟨a, b⟩, fun q => c ⟨q.1, by omega⟩⟩
            have FIN := Aside0.mk fin
            clear fin
            by_cases hg : s.low < gl
            · have q3 := eq_true hg
              have q4 : decide (s.low < gl) = true := decide_eq_true hg
              have HGG := Aside0.mk (show s.low = gl2 by rw [HG.out, if_pos hg])
              clear hg
              go_wp2_with fail
              go_roundw
              case rel => exact ⟨i + 1, gl2, sl, xs, congrArg (Value.int .i64) HGG.out, congrArg (Value.int .i64) HWI.out, FIN⟩
              case measure => rw [HWI.out]; exact Road.leftOf_lt (of_eq_true i2)
            · have q3 := eq_false hg
              have q4 : decide (s.low < gl) = false := decide_eq_false hg
              have HGG := Aside0.mk (show gl = gl2 by rw [HG.out, if_neg hg])
              clear hg
              go_wp2_with fail
              go_roundw
              case rel => exact ⟨i + 1, gl2, sl, xs, congrArg (Value.int .i64) HGG.out, congrArg (Value.int .i64) HWI.out, FIN⟩
              case measure => rw [HWI.out]; exact Road.leftOf_lt (of_eq_true i2)
          · have q1 := eq_false hf
            have q2 : decide (ts < s.low) = false := decide_eq_false hf
            clear hf
            have HK0 := Aside0.mk HO.out
            obtain ⟨D, hown, hD⟩ := (HK0.out.mem.slot i (of_eq_true i2) s (HS0.out.2.1.trans HS0.out.1)).2.2.2
            have zeroE : ∀ w, (zeroValue 2).run Tryd.prog w = .ok (.int .i64 0) w := fun w => by kernel_rfl
            clear HO
            go_wp2_with (first | (at_range; refine wpList_range_own _ rfl _ 77 rfl 32 2 lawU Tryd.underlying77 _ s.m N D rfl hown ?_; intro w1 hrg0 hg0 hs1) | go_in)
            go_frame
            obtain ⟨r, hr⟩ : ∃ r, r = wr.heap.size := ⟨_, rfl⟩
            rw [← hr] at hrg0 ⊢
            have hI0 : InS N B hb wb lo l ts odd base ab tb kd TC w i sl s.m r (Maps.has D) (Maps.size D) mxT xs D w1 := by
              obtain ⟨m1, l1, c1, e1⟩ := HK0.out
              have hbl : Below wr.heap.size wr w1 := ⟨hg0.os, hg0.tape, hg0.output, hg0.size, fun k hk => hg0.block k hk (by simp)⟩
              have hcw : ChW B wr w1 := ChW.of_below hbl
              have hleft : ∀ y ∈ l, pos y.2 = i → Maps.has D (kL y.1) = true := fun y hy hp =>
                (hD.1 y.1 (HA.out.2.1.all y hy).1).2 ⟨y.2, ⟨hy, hp⟩, fun q => by omega⟩
              have hst : ∀ j y, LO ts odd l i j y ↔ LIn ts odd l i (Maps.has D) j y := fun j y => by
                constructor
                · rintro ⟨a, c⟩
                  exact ⟨a, fun q => c ⟨q.1, q.2.elim id (fun r => absurd r.2 (by rw [hleft y a.1 (a.2.trans r.1)]; simp))⟩⟩
                · rintro ⟨a, c⟩
                  exact ⟨a, fun q => c ⟨q.1, .inl q.2⟩⟩
              exact ⟨hrg0, hD.congr (hst i), (m1.below hbl).congr hst, l1.into hleft, c1.chW hcw, e1.trans (chW_toE hcw)⟩
            have HI0 := Aside0.mk hI0
            have HOL := Aside0.mk HK0.out.log
            have HR := Aside0.mk (show B ≤ r by rw [hr]; exact Nat.le_trans HA.out.2.2.1 HK0.out.clo.size)
            clear hI0 hrg0 hg0 hs1 hown hD cp k0 k1 hr HK0
            have HS1 := Aside0.mk (And.intro HS0.out.1 HS0.out.2.1)
            clear HS0
            go_loopw [9] (fun v9 wx => ∃ (left : Lit → Bool) (cnt : Nat) (z : Int) (ys : List Tk) (D1 : DataW Unit), v9 = .int .i64 z ∧ Aside0 (InS N B hb wb lo l ts odd base ab tb kd TC w i sl s.m r left cnt z ys D1 wx)) (fun _ wx => wx.rangeLeft s.m r)
            case atStart => exact ⟨_, _, mxT, xs, D, rfl, HI0⟩
            case round =>
              obtain ⟨left, cnt, z, ys, D1, rfl, HI⟩ := hrel
              clear HI0
              have hrgI := HI.out.rng
              go_wp2_with (first | (at_next; refine wpList_next_ranges_ii _ rfl _ rfl 32 2 .u64 .i64 lawU Tryd.underlying32 Tryd.underlying2 s.m r N _ _ _ rfl hrgI ?_ ?_) | go_in)
              · intro hc0 hl0
                have hownI : mapD N wr s.m D1 := hrgI.owns
                have hsz := mapD_size hownI HI.out.map
                have hM := HI.out.mem
                have hi4 := of_eq_true i2
                have hsl : sl i = some s := HS1.out.2.trans HS1.out.1
                have hsc := (hM.slot i hi4 s hsl).2.2.1
                have k0 : wr.cell? ⟨s.b, 0, none⟩ = some (.map (some s.m)) := (cell_of_row wr s.b 0 _ _ _ hsc).trans rfl
                have c0 : wr.cell? ⟨hb, 0, none⟩ = some (.slice (some ⟨wb, 0, none⟩) 4096 4096) := (cell_of_row wr hb 0 _ _ _ hM.hd).trans rfl
                have cp : wr.cell? ⟨wb, i, none⟩ = some (.pointer (some ⟨s.b, 0, none⟩)) := (cell_of_row wr wb i _ _ _ hM.row).trans ((rowOf_get sl i hi4).trans (by rw [hsl]; rfl))
                have fp : wr.frozen? ⟨wb, i, none⟩ = false := Road.frozen_of_heap hM.row
                have k1 : wr.cell? ⟨s.b, 1, none⟩ = some (.int .i64 s.low) := (cell_of_row wr s.b 1 _ _ _ hsc).trans rfl
                have f1 : wr.frozen? ⟨s.b, 1, none⟩ = false := Road.frozen_of_heap hsc
                have HT := Aside0.mk (And.intro hsz (And.intro hM (And.intro hi4 (And.intro hsl (And.intro hsc hl0)))))
                clear hsz hM hi4 hsl hsc hl0 hc0 hrgI
                by_cases h0 : Maps.size D1 = 0
                · have q1 : (((Maps.size D1 : Nat) : Int) == 0) = true := by rw [h0]; rfl
                  have q2 := eq_true h0
                  have q3 := eq_true (show ((Maps.size D1 : Nat) : Int) = 0 by omega)
                  have H0 := Aside0.mk h0
                  clear h0
                  go_wp2_with (first | (at_len; refine wpList_len_own _ rfl _ 77 rfl 32 2 Tryd.underlying77 _ s.m N D1 rfl hownI ?_) | go_in)
                  go_roundw
                  case rel =>
                    obtain ⟨hsz, hM, hi4, hsl, hsc, hl0⟩ := HT.out
                    have hno := hsz.1 H0.out
                    have hch : ChW B wr (wr.setCell ⟨wb, i, none⟩ (.pointer none)) := ChW.set hM.bw hM.row rfl (grown_setCell wr wb i _)
                    refine ⟨i + 1, gl, upd sl i none, ys, rfl, congrArg (Value.int .i64) HWI.out, ⟨?_, HOL.out.empty hi4 HI.out.log hl0 (fun y hy hp => ?_), HI.out.clo.chW hch, HI.out.ch.trans (chW_toE hch)⟩⟩
                    · refine hM.place hi4 none (grown_setCell wr wb i _) ?_ (fun j _ y => LIn_end hl0 j y) (fun t h => by cases h) (fun t h => by cases h)
                      rw [← rowOf_set]
                      exact Road.setCell_same_heap i _ hM.row
                    · cases hg : goneB ts odd y with
                      | true => rfl
                      | false => exact absurd ⟨⟨hy, hp⟩, fun q => by rw [hg] at q; exact absurd q.1 (by simp)⟩ (hno y)
                  case measure => rw [HWI.out]; exact Road.leftOf_lt (of_eq_true i2)
                · have q1 : (((Maps.size D1 : Nat) : Int) == 0) = false := beq_eq_false_iff_ne.2 (by omega)
                  have q2 := eq_false h0
                  have q3 := eq_false (show ¬ ((Maps.size D1 : Nat) : Int) = 0 by omega)
                  obtain ⟨gl2, hgl2⟩ : ∃ q, q = (if z < gl then z else gl) := ⟨_, rfl⟩
                  have FIN := Aside0.mk (show OutS N B hb wb lo l ts odd ex sl0 base ab tb kd TC w (i + 1) gl2 (upd sl i (some ⟨s.b, s.m, z⟩)) ys (wr.setCell ⟨s.b, 1, none⟩ (.int .i64 z)) from by
                    obtain ⟨hsz, hM, hi4, hsl, hsc, hl0⟩ := HT.out
                    have hch : ChW B wr (wr.setCell ⟨s.b, 1, none⟩ (.int .i64 z)) := ChW.set (hM.slot i hi4 s hsl).1 hsc rfl (grown_setCell wr s.b 1 _)
                    refine ⟨?_, HOL.out.due HA.out.2.1 hi4 HI.out.log hl0 ?_ s.b s.m hgl2, HI.out.clo.chW hch, HI.out.ch.trans (chW_toE hch)⟩
                    · exact (hM.low hi4 hsl (grown_setCell wr s.b 1 _) (Road.setCell_same_heap 1 _ hsc)).congr (LIn_end hl0)
                    · obtain ⟨y, hy⟩ : ∃ y, LIn ts odd l i left i y := Classical.byContradiction (fun hn => h0 (hsz.2 (fun y hy => hn ⟨y, hy⟩)))
                      refine ⟨y, hy.1.1, hy.1.2, ?_⟩
                      cases hg : goneB ts odd y with
                      | false => rfl
                      | true => exact absurd ⟨hg, .inr ⟨rfl, hl0 _⟩⟩ hy.2)
                  have HG2 := Aside0.mk hgl2
                  clear h0 hgl2
                  by_cases hz : z < gl
                  · have q5 := eq_true hz
                    have q6 : decide (z < gl) = true := decide_eq_true hz
                    have HZE := Aside0.mk (show z = gl2 by rw [HG2.out, if_pos hz])
                    clear hz
                    go_wp2_with (first | (at_len; refine wpList_len_own _ rfl _ 77 rfl 32 2 Tryd.underlying77 _ s.m N D1 rfl hownI ?_) | go_in)
                    go_roundw
                    case rel => exact ⟨i + 1, gl2, _, ys, congrArg (Value.int .i64) HZE.out, congrArg (Value.int .i64) HWI.out, FIN⟩
                    case measure => rw [HWI.out]; exact Road.leftOf_lt (of_eq_true i2)
                  · have q5 := eq_false hz
                    have q6 : decide (z < gl) = false := decide_eq_false hz
                    have HZE := Aside0.mk (show gl = gl2 by rw [HG2.out, if_neg hz])
                    clear hz
                    go_wp2_with (first | (at_len; refine wpList_len_own _ rfl _ 77 rfl 32 2 Tryd.underlying77 _ s.m N D1 rfl hownI ?_) | go_in)
                    go_roundw
                    case rel => exact ⟨i + 1, gl2, _, ys, congrArg (Value.int .i64) HZE.out, congrArg (Value.int .i64) HWI.out, FIN⟩
                    case measure => rw [HWI.out]; exact Road.leftOf_lt (of_eq_true i2)
              · intro x c w1 cnt1 hwx hwc hlx hat hrg1 hlt hg1 hs1 hen
                have hx : wfU x := U_of_wf hwx
                have hLx := MapIs.of_at HI.out.map hx hat
                have hch1 : ChW B wr w1 := by
                  obtain ⟨⟨o, ho, hk, _⟩, _⟩ := ranges_objs hrgI
                  have hrB : B ≤ r := HR.out
                  exact ChW.set hrB ho hk hg1
                have hM1 : WMem N w1 B hb wb lo (cntv ts odd l ys) sl (LIn ts odd l i left) := by
                  obtain ⟨⟨o, ho, _, hk⟩, _⟩ := ranges_objs hrgI
                  exact HI.out.mem.keep (fun k o' ho' hk' => (hg1.block k (Array.getElem?_eq_some_iff.1 ho').1 (fun e => by
                    injection e with e
                    subst e
                    rw [ho] at ho'
                    injection ho' with ho'
                    rw [ho', hk'] at hk
                    exact absurd hk (by simp))).trans ho')
                have hC1 := HI.out.clo.chW hch1
                have hE1 := HI.out.ch.trans (chW_toE (ab := ab) (base := base) hch1)
                have H1 := Aside0.mk (And.intro hM1 (And.intro hC1 (And.intro hE1 (And.intro hLx (And.intro hlx (And.intro hat hrg1))))))
                have HLT := Aside0.mk hlt
                have HX := Aside0.mk hx
                obtain ⟨z2, hz2⟩ : ∃ q, q = (if c < z then c else z) := ⟨_, rfl⟩
                have HZ2 := Aside0.mk hz2
                clear hch1 hM1 hC1 hE1 hLx hlx hat hlt hx hz2 hg1 hs1 hrgI hrg1 hwc
                by_cases hts : c ≤ ts
                · have q1 := eq_true hts
                  have q2 : decide (c ≤ ts) = true := decide_eq_true hts
                  have HTS := Aside0.mk hts
                  clear hts
                  go_wp2_with fail
                  refine (HCL.out ys x c w1 H1.out.2.1 ?_ HX.out).mono ?_
                  · have h1 := HI.out.log.nd.length_le_of_subset (fun y hy => ((HI.out.log.mem y).1 hy).1)
                    have h2 := HA.out.2.1.len
                    omega
                  obtain ⟨g, hg⟩ : ∃ g, g = goesB odd x := ⟨_, rfl⟩
                  rw [← hg]
                  have HGO := Aside0.mk hg
                  clear hg
                  rintro en w2 ⟨rfl, hC2, hF2⟩
                  have hk12 : ∀ (k : Nat) (o : Obj), w1.heap[k]? = some o → wk o = true → w2.heap[k]? = some o := fun k o ho hk => hF2.keep k o ho (.inl hk) (by
                    obtain ⟨sv, hsv, _⟩ := H1.out.2.1.ans
                    rintro rfl
                    rw [hsv] at ho
                    injection ho with ho
                    rw [← ho] at hk
                    exact absurd hk (by simp [wk]))
                  have hrg2 := ranges_keep H1.out.2.2.2.2.2.2 (by
                    obtain ⟨_, o, ho, hk⟩ := ranges_objs H1.out.2.2.2.2.2.2
                    exact (hk12 _ o ho hk).trans ho.symm) (by
                    obtain ⟨⟨o, ho, hk, _⟩, _⟩ := ranges_objs H1.out.2.2.2.2.2.2
                    exact (hk12 _ o ho hk).trans ho.symm)
                  have hM2 : WMem N w2 B hb wb lo (cntv ts odd l ys) sl (LIn ts odd l i left) := H1.out.1.keep (fun k o ho hk => hk12 k o ho (wk_of_wm hk))
                  have hE2 := H1.out.2.2.1.trans (clF_toE hF2 HA.out.2.2.1 HA.out.2.2.2.1)
                  have H2 := Aside0.mk (And.intro hM2 (And.intro hC2 (And.intro hE2 hrg2)))
                  clear hM2 hC2 hF2 hE2 hk12
                  cases g with
                  | true =>
                    have hgone : goneB ts odd (x, c) = true := goneB_iff.2 ⟨HTS.out, HGO.out.symm⟩
                    have HGN := Aside0.mk hgone
                    clear hgone
                    have hown2 := hrg2.owns
                    have hhas : Maps.has D1 (.int .u64 x) = true := (HI.out.map.1 x HX.out).2 ⟨c, H1.out.2.2.2.1⟩
                    have hsc2 := (H2.out.1.slot i (of_eq_true i2) s (HS1.out.2.trans HS1.out.1)).2.2.1
                    have k0 : w2.cell? ⟨s.b, 0, none⟩ = some (.map (some s.m)) := (cell_of_row w2 s.b 0 _ _ _ hsc2).trans rfl
                    clear hsc2
                    go_upto_region 16 with (first | (at_lookup; refine wpList_lookup_own_ok_int _ rfl _ _ 77 rfl 32 2 .i64 lawU Tryd.underlying77 Tryd.underlying2 (zeroE _) s.m N D1 rfl hown2 _ _ rfl (keyOf_int_mk Tryd.underlying32 hwx) ?_; intro cc hat2 hwc2) | (at_delete; refine wpList_delete_ranges _ rfl _ _ 77 32 rfl 2 lawU Tryd.underlying77 _ s.m r N _ _ _ rfl hrg2 _ _ rfl (keyOf_int_mk Tryd.underlying32 hwx) ?_; intro w3 cnt3 hrg3 hle hturn) | go_in)
                    rw [Maps.strike_twice] at hrg3
                    have hrg3' : w3.ranges Tryd.prog 32 (plainElem Tryd.prog 2) s.m r N (D1.del (.int .u64 x)) (strike left x) cnt3 := hrg3
                    obtain ⟨hM2, hC2, hE2, _⟩ := H2.out
                    have hnd := HA.out.2.1.nd
                    have hLx := H1.out.2.2.2.1
                    have hmp : MapIs (D1.del (.int .u64 x)) (LIn ts odd l i (strike left x) i) := (HI.out.map.del x).congr (LIn_gone hnd hLx.1.1 HGN.out)
                    have hM3 : WMem N w3 B hb wb lo (cntv ts odd l ys) sl (LIn ts odd l i (strike left x)) :=
                      hM2.map (of_eq_true i2) (HS1.out.2.trans HS1.out.1) hturn.grown (Nat.le_refl _) ⟨_, hrg3'.owns, hmp⟩ (fun j hj y => LIn_other hj y)
                    have hc23 : ChW B w2 w3 := by
                      obtain ⟨_, o, ho, hk⟩ := ranges_objs hrg2
                      exact ChW.set (hM2.slot i (of_eq_true i2) s (HS1.out.2.trans HS1.out.1)).2.1 ho hk hturn.grown
                    obtain ⟨cv, hcv⟩ : ∃ cv, cv = cntv ts odd l ys := ⟨_, rfl⟩
                    have hcv1 : cntv ts odd l (ys ++ [(x, c)]) = cv - 1 := by rw [hcv]; exact cntv_snoc_gone HGN.out
                    have hlog : InLog ts odd l i (strike left x) (ys ++ [(x, c)]) z := HI.out.log.step hnd (HA.out.2.1.all _ hLx.1.1).2.2 hLx.1.1 hLx.1.2 H1.out.2.2.2.2.1 (by rw [if_pos HTS.out]) (by rw [if_pos HGN.out])
                    have hb1 := cntv_le (ts := ts) (odd := odd) (l := l) hlog.nd (fun y hy => ((hlog.mem y).1 hy).1)
                    have hlen := HA.out.2.1.len
                    rw [hcv1] at hb1
                    have ec : IntKind.u64.wrap (cv - 1) = cv - 1 := Road.wu64 _ _ rfl (by omega) (by omega)
                    rw [← hcv] at hM3
                    have k2 : w3.cell? ⟨hb, 2, none⟩ = some (.int .u64 cv) := (cell_of_row w3 hb 2 _ _ _ hM3.hd).trans rfl
                    have f2 : w3.frozen? ⟨hb, 2, none⟩ = false := Road.frozen_of_heap hM3.hd
                    have FIN := Aside0.mk (show InS N B hb wb lo l ts odd base ab tb kd TC w i sl s.m r (strike left x) cnt3 z (ys ++ [(x, c)]) (D1.del (.int .u64 x)) (w3.setCell ⟨hb, 2, none⟩ (.int .u64 (cv - 1))) from by
                      have hg3 := grown_setCell w3 hb 2 (.int .u64 (cv - 1))
                      have hc34 : ChW B w3 (w3.setCell ⟨hb, 2, none⟩ (.int .u64 (cv - 1))) := ChW.set hM3.bh hM3.hd rfl hg3
                      have hrg4 := ranges_keep (w' := w3.setCell ⟨hb, 2, none⟩ (.int .u64 (cv - 1))) hrg3' (by
                        obtain ⟨_, o, ho, hk⟩ := ranges_objs hrg3'
                        refine Road.setCell_other_heap w3 2 _ (fun e => ?_)
                        have := (hM3.hs (of_eq_true i2) (HS1.out.2.trans HS1.out.1)).2.2.1
                        exact this e.symm) (by
                        obtain ⟨⟨o, ho, _, hk⟩, _⟩ := ranges_objs hrg3'
                        refine Road.setCell_other_heap w3 2 _ (fun e => ?_)
                        rw [← e, hM3.hd] at ho
                        injection ho with ho
                        rw [← ho] at hk
                        exact absurd hk (by simp [wm]))
                      refine ⟨hrg4, hmp, ?_, hlog, (hC2.chW hc23).chW hc34, (hE2.trans (chW_toE hc23)).trans (chW_toE hc34)⟩
                      rw [hcv1]
                      exact hM3.head hg3 (Road.setCell_same_heap 2 _ hM3.hd))
                    have HLE := Aside0.mk hle
                    clear hM2 hC2 hE2 hnd hLx hmp hM3 hc23 hcv hcv1 hlog hb1 hlen hrg3 hrg3' hle hturn hown2 hrg2 hhas k0 hwx zeroE
                    go_wp2_with fail
                    go_roundw
                    case rel => exact ⟨_, cnt3, z, _, _, rfl, FIN⟩
                    case measure => rw [FIN.out.rng.left_eq, HI.out.rng.left_eq]; have := HLE.out; have := HLT.out; omega
                  | false =>
                    have fin : InS N B hb wb lo l ts odd base ab tb kd TC w i sl s.m r (strike left x) cnt1 z2 (ys ++ [(x, c)]) D1 w2 := by
                      obtain ⟨m1, c1, e1, hlx, hle, hat, hrg⟩ := H1.out
                      obtain ⟨m2, c2, e2, hrg2⟩ := H2.out
                      have hg : goneB ts odd (x, c) = false := by
                        simp only [goneB, Bool.and_eq_false_iff]
                        exact .inr HGO.out.symm
                      refine ⟨hrg2, HI.out.map.congr (LIn_stay HA.out.2.1.nd hlx.1.1 hg i), ?_, HI.out.log.step HA.out.2.1.nd (HA.out.2.1.all _ hlx.1.1).2.2 hlx.1.1 hlx.1.2 hle ?_ ?_, c2, e2⟩
                      · rw [cntv_snoc_stay hg]
                        exact m2.congr (LIn_stay HA.out.2.1.nd hlx.1.1 hg)
                      · rw [if_pos HTS.out]
                      · rw [hg, HZ2.out]; rfl
                    have FIN := Aside0.mk fin
                    clear fin hrg2
                    by_cases hz : c < z
                    · have q5 := eq_true hz
                      have q6 : decide (c < z) = true := decide_eq_true hz
                      have HZE := Aside0.mk (show c = z2 by rw [HZ2.out, if_pos hz])
                      clear hz
                      go_wp2_with fail
                      go_roundw
                      case rel => exact ⟨_, cnt1, z2, _, D1, congrArg (Value.int .i64) HZE.out, FIN⟩
                      case measure => rw [FIN.out.rng.left_eq, HI.out.rng.left_eq]; exact HLT.out
                    · have q5 := eq_false hz
                      have q6 : decide (c < z) = false := decide_eq_false hz
                      have HZE := Aside0.mk (show z = z2 by rw [HZ2.out, if_neg hz])
                      clear hz
                      go_wp2_with fail
                      go_roundw
                      case rel => exact ⟨_, cnt1, z2, _, D1, congrArg (Value.int .i64) HZE.out, FIN⟩
                      case measure => rw [FIN.out.rng.left_eq, HI.out.rng.left_eq]; exact HLT.out
                · have q1 := eq_false hts
                  have q2 : decide (c ≤ ts) = false := decide_eq_false hts
                  have HTS := Aside0.mk hts
                  clear hts
                  have fin : InS N B hb wb lo l ts odd base ab tb kd TC w i sl s.m r (strike left x) cnt1 z2 ys D1 w1 := by
                    obtain ⟨m1, c1, e1, hlx, hle, hat, hrg⟩ := H1.out
                    have hg : goneB ts odd (x, c) = false := by
                      simp only [goneB, Bool.and_eq_false_iff, decide_eq_false_iff_not]
                      exact .inl (by have := HTS.out; omega)
                    refine ⟨hrg, HI.out.map.congr (LIn_stay HA.out.2.1.nd hlx.1.1 hg i), m1.congr (LIn_stay HA.out.2.1.nd hlx.1.1 hg), HI.out.log.step HA.out.2.1.nd (HA.out.2.1.all _ hlx.1.1).2.2 hlx.1.1 hlx.1.2 hle ?_ ?_, c1, e1⟩
                    · rw [if_neg HTS.out]
                    · rw [hg, HZ2.out]; rfl
                  have FIN := Aside0.mk fin
                  clear fin
                  by_cases hz : c < z
                  · have q5 := eq_true hz
                    have q6 : decide (c < z) = true := decide_eq_true hz
                    have HZE := Aside0.mk (show c = z2 by rw [HZ2.out, if_pos hz])
                    clear hz
                    go_wp2_with fail
                    go_roundw
                    case rel => exact ⟨_, cnt1, z2, _, D1, congrArg (Value.int .i64) HZE.out, FIN⟩
                    case measure => rw [FIN.out.rng.left_eq, HI.out.rng.left_eq]; exact HLT.out
                  · have q5 := eq_false hz
                    have q6 : decide (c < z) = false := decide_eq_false hz
                    have HZE := Aside0.mk (show z = z2 by rw [HZ2.out, if_neg hz])
                    clear hz
                    go_wp2_with fail
                    go_roundw
                    case rel => exact ⟨_, cnt1, z2, _, D1, congrArg (Value.int .i64) HZE.out, FIN⟩
                    case measure => rw [FIN.out.rng.left_eq, HI.out.rng.left_eq]; exact HLT.out
      · have i1 := eq_false (show ¬ (i : Int) < 4096 by omega)
        have i2 := eq_false (show ¬ i < 4096 by omega)
        have h1 : wr.frozen? ⟨hb, 1, none⟩ = false := Road.frozen_of_heap HO.out.mem.hd
        have c1 : wr.cell? ⟨hb, 1, none⟩ = some (.int .i64 lo) := (cell_of_row wr hb 1 _ _ _ HO.out.mem.hd).trans rfl
        go_wp2_with fail
        go_end0
        obtain ⟨hM, hL, hB, hBa, hbs, hC⟩ := HA.out
        obtain ⟨m1, l1, k1, e1⟩ := HO.out
        have e4 : i = 4096 := by have := l1.i4; omega
        rw [e4] at m1 l1
        have hch : ChW B wr (wr.setCell ⟨hb, 1, none⟩ (.int .i64 gl)) := ChW.set m1.bh m1.hd rfl (grown_setCell wr hb 1 _)
        refine ⟨rfl, xs, ⟨wb, gl, sl, ?_, l1.done hL⟩, l1.perm hL.nd, k1.chW hch, e1.trans (chW_toE hch)⟩
        have m2 := m1.head (grown_setCell wr hb 1 (.int .i64 gl)) (Road.setCell_same_heap 1 _ m1.hd)
        rw [l1.cnt hL.nd] at m2
        refine m2.congr (fun j y => ?_)
        show (y ∈ l ∧ pos y.2 = j) ∧ ¬ (goneB ts odd y = true ∧ j < 4096) ↔ y ∈ stayL ts odd l ∧ pos y.2 = j
        rw [mem_stayL]
        constructor
        · rintro ⟨⟨a, b⟩, c⟩
          refine ⟨⟨a, ?_⟩, b⟩
          cases hg : goneB ts odd y with
          | false => rfl
          | true => exact absurd ⟨hg, by rw [← b]; exact pos_lt _⟩ c
        · rintro ⟨⟨a, b⟩, c⟩
          exact ⟨⟨a, c⟩, fun q => by rw [b] at q; exact absurd q.1 (by simp)⟩

end Go.Proofs.YtnkjlfadegjjoaaDoor.WhB
