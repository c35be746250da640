/- FnHeaderOthers: whatever the lines and the two keys (their number within the form's reach), the law returns true. -/
import Derived.Test.YtmfblbjklmgncaaPFnHeaderOthersr
import Derived.Test.YtmfblbjklmgncaaRoad
namespace Go.Proofs.Ytmfblbjklmgncaa.Pure
open Go.RowKit Go.Proofs.Ytmfblbjklmgncaa.PFnHeaderOthers Go.Proofs.YtmfblbjklmgncaaW.PrintWords Go.Proofs.YtmfblbjklmgncaaW.PrintLast Go.Proofs.Ytmfblbjklmgncaa.Road
set_option linter.unusedVariables false
set_option linter.unusedSimpArgs false

open _root_.Go.Proofs.Ytmfblbjklmgncaa.HeadW
/-! ### lines as bytes -/
def I8 (l : Bs) : List Int := l.map fun c => (c.toNat : Int)
theorem I8_bytesOf (s : ByteArray) : bytesOf s = I8 (bl s) := by
  conv => lhs; rw [← mkB_bl s, bytesOf_mkB]
  rfl
theorem I8_inj {l m : Bs} (h : I8 l = I8 m) : l = m := by
  unfold I8 at h
  exact (List.map_inj_right (fun a b e => UInt8.toNat_inj.1 (Int.ofNat.inj e))).1 h
theorem son_I8 (l : Bs) : strOfNums (I8 l) = mkB l := by rw [show I8 l = bytesOf (mkB l) from (bytesOf_mkB l).symm, strOfNums_bytesOf]
theorem I8_len (l : Bs) : (I8 l).length = l.length := List.length_map _
theorem I8_drop (l : Bs) (k : Nat) : (I8 l).drop k = I8 (l.drop k) := by simp [I8, List.map_drop]
theorem I8_take (l : Bs) (k : Nat) : (I8 l).take k = I8 (l.take k) := by simp [I8, List.map_take]
theorem I8_append (l m : Bs) : I8 (l ++ m) = I8 l ++ I8 m := List.map_append
/-- The text stands there. -/
def hitB (b p : Bs) (k : Nat) : Prop := (b.drop k).take p.length = p
instance (b p : Bs) (k : Nat) : Decidable (hitB b p k) := by unfold hitB; infer_instance
theorem hitAt_iff (b p : Bs) (k : Nat) : hitAt (I8 b) (I8 p) k = decide (hitB b p k) := by
  unfold hitAt
  rw [I8_drop, I8_len, I8_take, son_I8, son_I8, toList_mkB, toList_mkB]
  by_cases h : hitB b p k
  · rw [decide_eq_true h]; exact beq_iff_eq.2 h
  · rw [decide_eq_false h]; exact beq_eq_false_iff_ne.2 h
theorem hitB_mid (a p c : Bs) : hitB (a ++ (p ++ c)) p a.length := by
  unfold hitB
  rw [List.drop_left, List.take_left]
theorem hitB_room {b p : Bs} {k : Nat} (h : hitB b p k) (hp : p ≠ []) : k + p.length ≤ b.length := by
  have := congrArg List.length h
  rw [List.length_take, List.length_drop] at this
  have : 0 < p.length := List.length_pos_iff.2 hp
  omega
theorem hitB_get {b p : Bs} {k : Nat} (h : hitB b p k) (j : Nat) (hj : j < p.length) : b[k + j]? = some (p[j]'hj) := by
  have : p[j]? = some (p[j]'hj) := List.getElem?_eq_getElem hj
  rw [← this]
  conv => rhs; rw [← h]
  rw [List.getElem?_take_of_lt hj, List.getElem?_drop]
theorem hitB_left {a c p : Bs} {k : Nat} (h : hitB a p k) (hr : k + p.length ≤ a.length) : hitB (a ++ c) p k := by
  unfold hitB at h ⊢
  rw [List.drop_append_of_le_length (by omega), List.take_append_of_le_length (by rw [List.length_drop]; omega), h]
theorem hitB_left' {a c p : Bs} {k : Nat} (h : hitB (a ++ c) p k) (hr : k + p.length ≤ a.length) : hitB a p k := by
  unfold hitB at h ⊢
  rwa [List.drop_append_of_le_length (by omega), List.take_append_of_le_length (by rw [List.length_drop]; omega)] at h
theorem hitB_right {a c p : Bs} {k : Nat} : hitB (a ++ c) p (a.length + k) ↔ hitB c p k := by
  unfold hitB
  rw [List.drop_append, List.drop_eq_nil_of_le (by omega), List.nil_append, Nat.add_sub_cancel_left]
/-- A line. -/
def lineB (x : Bs × Bs) : Bs := x.1 ++ ([58, 32] ++ (x.2 ++ [13, 10]))
def preB : Bs := [78, 65, 84, 83, 47, 49, 46, 48, 13, 10]
def bodyB (l : List (Bs × Bs)) : Bs := l.flatMap lineB
def hdrB (l : List (Bs × Bs)) : Bs := preB ++ (bodyB l ++ [13, 10])
/-- A key: no line ends, not empty. -/
def TokB (p : Bs) : Prop := p ≠ [] ∧ ∀ c ∈ p, c ≠ 13 ∧ c ≠ 10
/-- A value: no line ends, no blank ahead. -/
def ValB (p : Bs) : Prop := (∀ c ∈ p, c ≠ 13 ∧ c ≠ 10) ∧ p.head? ≠ some 32
theorem bodyB_append (a b : List (Bs × Bs)) : bodyB (a ++ b) = bodyB a ++ bodyB b := List.flatMap_append
theorem pre_end (a : List (Bs × Bs)) : ∃ q, preB ++ bodyB a = q ++ [13, 10] := by
  rcases List.eq_nil_or_concat a with rfl | ⟨b, x, rfl⟩
  · exact ⟨[78, 65, 84, 83, 47, 49, 46, 48], rfl⟩
  · refine ⟨preB ++ (bodyB b ++ (x.1 ++ ([58, 32] ++ x.2))), ?_⟩
    rw [List.concat_eq_append, bodyB_append]
    simp [bodyB, lineB]
/-- No key goes over a line's end. -/
theorem no_straddle {q c p : Bs} {k : Nat} (hp : TokB p) (h : hitB ((q ++ [13, 10]) ++ c) p k) : k + p.length ≤ (q ++ [13, 10]).length ∨ (q ++ [13, 10]).length ≤ k := by
  rcases Nat.lt_or_ge k (q ++ [13, 10]).length with h1 | h1
  · rcases Nat.lt_or_ge (q ++ [13, 10]).length (k + p.length) with h2 | h2
    · exfalso
      have hl : (q ++ [13, 10]).length = q.length + 2 := by simp
      have hj : q.length + 1 - k < p.length := by omega
      have := hitB_get h (q.length + 1 - k) hj
      rw [show k + (q.length + 1 - k) = q.length + 1 by omega] at this
      have e : ((q ++ [13, 10]) ++ c)[q.length + 1]? = some 10 := by
        rw [List.append_assoc, List.getElem?_append_right (by omega)]
        simp
      rw [e] at this
      exact (hp.2 _ (List.getElem_mem hj)).2 (Option.some.inj this).symm
    · exact .inl h2
  · exact .inr h1
/-- With the key's only place cut, there is none. -/
theorem cut_none {P c r p : Bs} (hP : ∃ q, P = q ++ [13, 10]) (hp : TokB p) (hx : ∃ q, p ++ c = q ++ [13, 10]) (h1 : ∀ j, hitB (P ++ ((p ++ c) ++ r)) p j → j = P.length) : ∀ j, ¬ hitB (P ++ r) p j := by
  intro j hj
  obtain ⟨q, rfl⟩ := hP
  rcases no_straddle hp hj with h | h
  · have h2 := hitB_left (c := (p ++ c) ++ r) (hitB_left' hj h) h
    have := h1 j h2
    have : 0 < p.length := List.length_pos_iff.2 hp.1
    omega
  · obtain ⟨m, rfl⟩ := Nat.exists_eq_add_of_le h
    have h3 := hitB_right.1 hj
    have h4 : hitB ((q ++ [13, 10]) ++ ((p ++ c) ++ r)) p ((q ++ [13, 10]).length + ((p ++ c).length + m)) := hitB_right.2 (hitB_right.2 h3)
    have h5 := h1 _ h4
    have : 0 < p.length := List.length_pos_iff.2 hp.1
    have e5 : (p ++ c).length = p.length + c.length := List.length_append
    rw [e5] at h5
    omega
theorem rd_I8 {H : Bs} {n : Nat} {c : UInt8} (h : H[n]? = some c) : rd (I8 H) (n : Int) = (c.toNat : Int) := by
  simp [rd, I8, List.getD_eq_getElem?_getD, h]
theorem fh_none {H p : Bs} (h : ∀ j, ¬ hitB H p j) : firstHit (I8 H) (I8 p) = none := hit_no fun j _ => by rw [hitAt_iff, decide_eq_false (h j)]
theorem fh_is {H p : Bs} {i : Nat} (hp : p ≠ []) (h1 : hitB H p i) (h2 : ∀ j, j < i → ¬ hitB H p j) : firstHit (I8 H) (I8 p) = some i := by
  refine hit_is ?_ (by rw [hitAt_iff, decide_eq_true h1]) (fun j hj => by rw [hitAt_iff, decide_eq_false (h2 j hj)])
  rw [I8_len, I8_len]
  exact hitB_room h1 hp
theorem removeL_none {H p : Bs} (h : ∀ j, ¬ hitB H p j) : removeL (I8 H) p.length (I8 p) = some (I8 H) := by
  unfold removeL
  rw [fh_none h]
theorem hdr_split (a b : List (Bs × Bs)) (x : Bs × Bs) : hdrB (a ++ x :: b) = (preB ++ bodyB a) ++ ((x.1 ++ ([58, 32] ++ (x.2 ++ [13, 10]))) ++ (bodyB b ++ [13, 10])) := by
  unfold hdrB
  rw [bodyB_append]
  simp [bodyB, lineB]
theorem body_nil {l : List (Bs × Bs)} (h : bodyB l = []) : l = [] := by
  cases l with
  | nil => rfl
  | cons x l =>
    have := congrArg List.length h
    simp [bodyB, lineB] at this
theorem removeL_some (a b : List (Bs × Bs)) (x : Bs × Bs) (hp : TokB x.1) (hv : ValB x.2) (h1 : ∀ j, hitB (hdrB (a ++ x :: b)) x.1 j → j = (preB ++ bodyB a).length) :
    removeL (I8 (hdrB (a ++ x :: b))) x.1.length (I8 x.1) = some (I8 (if a ++ b = [] then [] else hdrB (a ++ b))) := by
  obtain ⟨p, v⟩ := x
  obtain ⟨q, hq⟩ := pre_end a
  have hs := hdr_split a b (p, v)
  simp only at hs hp hv h1 ⊢
  rw [hs] at h1 ⊢
  generalize hP : preB ++ bodyB a = P at hq h1 ⊢
  generalize hr : bodyB b ++ [13, 10] = r at h1 ⊢
  have hrl : r ≠ [] := by rw [← hr]; simp
  have hPl : P.length = q.length + 2 := by rw [hq]; simp
  have hx : ∃ q, p ++ ([58, 32] ++ (v ++ [13, 10])) = q ++ [13, 10] := ⟨p ++ ([58, 32] ++ v), by simp⟩
  have hcut := cut_none ⟨q, hq⟩ hp hx h1
  have hh : hitB (P ++ ((p ++ ([58, 32] ++ (v ++ [13, 10]))) ++ r)) p P.length := by
    rw [List.append_assoc p]
    exact hitB_mid P p _
  have hf := fh_is hp.1 hh (fun j hj h => by have := h1 j h; omega)
  have hpre : ∀ c ∈ p ++ ([58, 32] ++ v), c ≠ 13 := by
    intro c hc
    simp only [List.mem_append, List.mem_cons, List.not_mem_nil, or_false] at hc
    rcases hc with hc | (rfl | rfl) | hc
    · exact (hp.2 c hc).1
    · decide
    · decide
    · exact (hv.1 c hc).1
  have hpl : (p ++ ([58, 32] ++ v)).length = p.length + 2 + v.length := by simp; omega
  have hf2 : firstHit ((I8 (P ++ ((p ++ ([58, 32] ++ (v ++ [13, 10]))) ++ r))).drop P.length) [13, 10] = some (p.length + 2 + v.length) := by
    rw [I8_drop, List.drop_left, show ([13, 10] : List Int) = I8 [13, 10] from rfl]
    have e : (p ++ ([58, 32] ++ (v ++ [13, 10]))) ++ r = (p ++ ([58, 32] ++ v)) ++ ([13, 10] ++ r) := by simp
    rw [e, ← hpl]
    refine fh_is (by decide) (hitB_mid _ _ _) (fun j hj h => ?_)
    have h3 := hitB_get h 0 (by decide)
    rw [Nat.add_zero, List.getElem?_append_left hj, List.getElem?_eq_getElem hj] at h3
    exact hpre _ (List.getElem_mem hj) (Option.some.inj h3)
  have g1 : rd (I8 (P ++ ((p ++ ([58, 32] ++ (v ++ [13, 10]))) ++ r))) ((P.length - 1 : Nat) : Int) = 10 := by
    refine rd_I8 (c := 10) ?_
    rw [hPl, hq, show q.length + 2 - 1 = q.length + 1 by omega, List.append_assoc, List.getElem?_append_right (by omega)]
    simp
  have g2 : rd (I8 (P ++ ((p ++ ([58, 32] ++ (v ++ [13, 10]))) ++ r))) ((P.length - 2 : Nat) : Int) = 13 := by
    refine rd_I8 (c := 13) ?_
    rw [hPl, hq, show q.length + 2 - 2 = q.length by omega, List.append_assoc, List.getElem?_append_right (by omega)]
    simp
  have g3 : rd (I8 (P ++ ((p ++ ([58, 32] ++ (v ++ [13, 10]))) ++ r))) ((P.length + p.length : Nat) : Int) = 58 := by
    refine rd_I8 (c := 58) ?_
    rw [List.getElem?_append_right (by omega), Nat.add_sub_cancel_left, List.append_assoc p, List.getElem?_append_right (by omega)]
    simp
  have hlen : (I8 (P ++ ((p ++ ([58, 32] ++ (v ++ [13, 10]))) ++ r))).length = P.length + (p.length + 2 + v.length + 2) + r.length := by rw [I8_len]; simp; omega
  have hrp : 0 < r.length := List.length_pos_iff.2 hrl
  have hc : cutL (I8 (P ++ ((p ++ ([58, 32] ++ (v ++ [13, 10]))) ++ r))) P.length (P.length + (p.length + 2 + v.length) + 2) = I8 (P ++ r) := by
    unfold cutL
    rw [I8_take, List.take_left, I8_drop, I8_append, ← List.append_assoc P, show P.length + (p.length + 2 + v.length) + 2 = (P ++ (p ++ ([58, 32] ++ (v ++ [13, 10])))).length by simp; omega, List.drop_left]
  unfold removeL
  simp only [hf]
  rw [if_pos ⟨by omega, by omega, g1, g2, g3⟩]
  simp only [hf2, hc]
  rw [if_pos ⟨by omega, fh_none hcut⟩]
  congr 1
  have hPr : P ++ r = hdrB (a ++ b) := by rw [← hP, ← hr, hdrB, bodyB_append]; simp
  by_cases he : a ++ b = []
  · rw [if_pos he, if_pos (by rw [I8_len, hPr, he]; decide)]
    rfl
  · rw [if_neg he, if_neg ?_, hPr]
    intro hle
    rw [I8_len, hPr] at hle
    refine he (body_nil (List.eq_nil_of_length_eq_zero ?_))
    unfold hdrB preB at hle
    simp only [List.length_append, List.length_cons, List.length_nil] at hle
    omega

/-! ### the printed functions' values -/
theorem rdT (l : List S37) (i : Nat) (h : i < l.length) : rd_T37 l (i : Int) = l[i] := by
  unfold rd_T37
  exact rdOf_nat _ l i h
theorem bl_app (a b : ByteArray) : bl (a ++ b) = bl a ++ bl b := by simp [bl]
def prs (l : List S37) : List (Bs × Bs) := l.map fun x => (bl x.f0, bl x.f1)
def SmallL (l : List S37) : Prop := l.length ≤ 8 ∧ ∀ x ∈ l, x.f0.size ≤ 40 ∧ x.f1.size ≤ 60
theorem Header_loop (l : List S37) (hl : SmallL l) (d : Nat) : ∀ (i : Nat) (s : ByteArray), i + d = l.length → s.size ≤ 100 + i * 110 →
    Ev (fun k => spec_Header.l0 k l s (i : Int)) (mkB (bl s ++ (bodyB (prs (l.drop i)) ++ [13, 10]))) := by
  obtain ⟨hn, hx⟩ := hl
  induction d with
  | zero =>
    intro i s h1 h2
    refine Ev.step (f := fun _ => some (s ++ (⟨#[13, 10]⟩ : ByteArray))) (fun k => ?_) ?_
    · simp only [spec_Header.l0]
      rw [if_neg (by omega), if_pos (by omega)]
    · have e : s ++ (⟨#[13, 10]⟩ : ByteArray) = mkB (bl s ++ (bodyB (prs (l.drop i)) ++ [13, 10])) := by
        apply bl_inj
        rw [bl_app, bl_mkB, show l.drop i = [] from List.drop_eq_nil_of_le (by omega)]
        rfl
      rw [e]
      exact Ev.now _
  | succ d ih =>
    intro i s h1 h2
    have hi : i < l.length := by omega
    have hxi := hx l[i] (List.getElem_mem hi)
    have hsz : (((l[i].f0 ++ (⟨#[58, 32]⟩ : ByteArray)) ++ l[i].f1) ++ (⟨#[13, 10]⟩ : ByteArray)).size = l[i].f0.size + 2 + l[i].f1.size + 2 := by
      simp only [ByteArray.size_append]; rfl
    have hsz2 : ((l[i].f0 ++ (⟨#[58, 32]⟩ : ByteArray)) ++ l[i].f1).size = l[i].f0.size + 2 + l[i].f1.size := by
      simp only [ByteArray.size_append]; rfl
    have hsz3 : (l[i].f0 ++ (⟨#[58, 32]⟩ : ByteArray)).size = l[i].f0.size + 2 := by
      simp only [ByteArray.size_append]; rfl
    refine Ev.step (f := fun k => spec_Header.l0 k l (s ++ (((l[i].f0 ++ (⟨#[58, 32]⟩ : ByteArray)) ++ l[i].f1) ++ (⟨#[13, 10]⟩ : ByteArray))) ((i + 1 : Nat) : Int)) (fun k => ?_) ?_
    · simp only [spec_Header.l0]
      rw [if_pos (by omega), if_pos (by omega), rdT l i hi, if_pos (by omega), hsz3, if_pos (by omega), hsz2, if_pos (by omega), hsz, if_pos (by omega), wrap_nat i (by omega)]
    · have := ih (i + 1) (s ++ (((l[i].f0 ++ (⟨#[58, 32]⟩ : ByteArray)) ++ l[i].f1) ++ (⟨#[13, 10]⟩ : ByteArray))) (by omega) (by rw [ByteArray.size_append, hsz]; omega)
      have e : bl (s ++ (((l[i].f0 ++ (⟨#[58, 32]⟩ : ByteArray)) ++ l[i].f1) ++ (⟨#[13, 10]⟩ : ByteArray))) ++ (bodyB (prs (l.drop (i + 1))) ++ [13, 10]) = bl s ++ (bodyB (prs (l.drop i)) ++ [13, 10]) := by
        rw [List.drop_eq_getElem_cons hi, bl_app, bl_app, bl_app, bl_app]
        simp [prs, bodyB, lineB, bl, -List.getElem_cons_drop]
      rwa [e] at this
theorem Header_ev (l : List S37) (hl : SmallL l) : Ev (fun k => spec_Header.f k l) (mkB (hdrB (prs l))) := by
  have := Header_loop l hl l.length 0 (⟨#[78, 65, 84, 83, 47, 49, 46, 48, 13, 10]⟩ : ByteArray) (by omega) (by show 10 ≤ _; omega)
  unfold spec_Header.f
  exact this
/-- How often the text stands there, from a place on. -/
def cntF (b p : Bs) : Nat → Nat → Nat
  | 0, _ => 0
  | d + 1, i => (if hitB b p i then 1 else 0) + cntF b p d (i + 1)
theorem cnt_pos (b p : Bs) (d : Nat) : ∀ i j, i ≤ j → j < i + d → hitB b p j → 1 ≤ cntF b p d i := by
  induction d with
  | zero => intro i j h1 h2; omega
  | succ d ih =>
    intro i j h1 h2 h3
    rw [cntF]
    by_cases e : i = j
    · rw [e, if_pos h3]; omega
    · have := ih (i + 1) j (by omega) (by omega) h3; omega
theorem cnt_two (b p : Bs) (d : Nat) : ∀ i j m, i ≤ j → j < m → m < i + d → hitB b p j → hitB b p m → 2 ≤ cntF b p d i := by
  induction d with
  | zero => intro i j m h1 h2 h3; omega
  | succ d ih =>
    intro i j m h1 h2 h3 h4 h5
    rw [cntF]
    by_cases e : i = j
    · rw [e, if_pos h4]
      have := cnt_pos b p d (j + 1) m (by omega) (by omega) h5
      omega
    · have := ih (i + 1) j m (by omega) h2 (by omega) h4 h5; omega
theorem extract_hit (s p : ByteArray) (i : Nat) (h : i + p.size ≤ s.size) : ((s.extract i (i + p.size)).toList = p.toList) ↔ hitB (bl s) (bl p) i := by
  rw [toList_bl, toList_bl, bl_extract]
  unfold hitB
  rw [bl_len, List.drop_take, Nat.add_sub_cancel_left]
theorem times_loop (s p : ByteArray) (hs : s.size ≤ 100000) (hp : p.size ≤ 100000) (d : Nat) : ∀ (i n : Nat), i ≤ 200000 → n ≤ i → (i + d + p.size = s.size + 1 ∨ d = 0 ∧ s.size < i + p.size) →
    Ev (fun k => laws_times.l0 k s p (n : Int) (i : Int)) ((n + cntF (bl s) (bl p) d i : Nat) : Int) := by
  induction d with
  | zero =>
    intro i n hi hn h
    refine Ev.step (f := fun _ => some (n : Int)) (fun k => ?_) (Ev.now _)
    simp only [laws_times.l0]
    rw [w64 ((i : Int) + (p.size : Int)) ((i + p.size : Nat) : Int) (by omega) (by omega) (by omega), if_neg (by omega)]
  | succ d ih =>
    intro i n hi hn h
    have hr : i + p.size ≤ s.size := by omega
    by_cases hh : hitB (bl s) (bl p) i
    · refine Ev.step (f := fun k => laws_times.l0 k s p ((n + 1 : Nat) : Int) ((i + 1 : Nat) : Int)) (fun k => ?_) ?_
      · simp only [laws_times.l0]
        rw [w64 ((i : Int) + (p.size : Int)) ((i + p.size : Nat) : Int) (by omega) (by omega) (by omega), if_pos (by omega), if_pos (by omega), if_pos (by omega), Int.toNat_natCast, Int.toNat_natCast, if_pos ((extract_hit s p i hr).2 hh), wrap_nat i (by omega), wrap_nat n (by omega)]
      · have := ih (i + 1) (n + 1) (by omega) (by omega) (by omega)
        rw [cntF, if_pos hh]
        rwa [show n + 1 + cntF (bl s) (bl p) d (i + 1) = n + (1 + cntF (bl s) (bl p) d (i + 1)) by omega] at this
    · refine Ev.step (f := fun k => laws_times.l0 k s p (n : Int) ((i + 1 : Nat) : Int)) (fun k => ?_) ?_
      · simp only [laws_times.l0]
        rw [w64 ((i : Int) + (p.size : Int)) ((i + p.size : Nat) : Int) (by omega) (by omega) (by omega), if_pos (by omega), if_pos (by omega), if_pos (by omega), Int.toNat_natCast, Int.toNat_natCast, if_neg (fun e => hh ((extract_hit s p i hr).1 e)), wrap_nat i (by omega)]
      · have := ih (i + 1) n (by omega) (by omega) (by omega)
        rw [cntF, if_neg hh, Nat.zero_add]
        exact this

def OkS (x : S37) : Prop := x.f0.size ≤ 2147483647 ∧ x.f1.size ≤ 2147483647
theorem zf_loop (l : List S37) (hl : l.length ≤ 2147483647) (d : Nat) : ∀ i : Nat, i + d = l.length → ∃ z, Ev (fun k => laws_zzFits3.l0 k l (l.length : Int) (i : Int)) z ∧ (z = true → ∀ x ∈ l.drop i, OkS x) := by
  induction d with
  | zero =>
    intro i h
    refine ⟨true, Ev.step (f := fun _ => some true) (fun k => ?_) (Ev.now _), fun _ x hx => ?_⟩
    · simp only [laws_zzFits3.l0]
      rw [if_neg (by omega)]
    · rw [List.drop_eq_nil_of_le (by omega)] at hx
      cases hx
  | succ d ih =>
    intro i h
    have hi : i < l.length := by omega
    obtain ⟨t, ht, ht2⟩ : ∃ t, laws_zzFits4.f ((rd_T37 l (i : Int)).f0) ((rd_T37 l (i : Int)).f1) = some t ∧ (t = true → OkS l[i]) := by
      unfold laws_zzFits4.f
      rw [rdT l i hi]
      split
      · exact ⟨_, rfl, fun e => by cases e⟩
      · split
        · exact ⟨_, rfl, fun e => by cases e⟩
        · exact ⟨_, rfl, fun _ => ⟨by omega, by omega⟩⟩
    cases t with
    | true =>
      obtain ⟨z, hz, h2⟩ := ih (i + 1) (by omega)
      refine ⟨z, Ev.step (f := fun k => laws_zzFits3.l0 k l (l.length : Int) ((i + 1 : Nat) : Int)) (fun k => ?_) hz, fun e x hx => ?_⟩
      · simp only [laws_zzFits3.l0]
        rw [if_pos (by omega), if_pos (by omega), if_pos (by omega), ht, Option.bind_some, if_pos rfl, wrap_nat i (by omega)]
      · rw [List.drop_eq_getElem_cons hi] at hx
        rcases List.mem_cons.1 hx with rfl | hx
        · exact ht2 rfl
        · exact h2 e x hx
    | false =>
      refine ⟨false, Ev.step (f := fun _ => some false) (fun k => ?_) (Ev.now _), fun e => by cases e⟩
      simp only [laws_zzFits3.l0]
      rw [if_pos (by omega), if_pos (by omega), if_pos (by omega), ht, Option.bind_some, if_neg (by decide)]
theorem zf_ev (l : List S37) : ∃ z, Ev (fun k => laws_zzFits3.f k l) z ∧ (z = true → l.length ≤ 2147483647 ∧ ∀ x ∈ l, OkS x) := by
  unfold laws_zzFits3.f
  by_cases h : (l.length : Int) > 2147483647
  · exact ⟨false, Ev.congr (f := fun _ => some false) (fun k => if_pos h) (Ev.now _), fun e => by cases e⟩
  · obtain ⟨z, hz, h2⟩ := zf_loop l (by omega) l.length 0 (by omega)
    exact ⟨z, Ev.congr (f := fun k => laws_zzFits3.l0 k l (l.length : Int) 0) (fun k => if_neg h) hz, fun e => ⟨by omega, fun x hx => h2 e x (by rwa [List.drop_zero])⟩⟩
theorem Token_loop (s : ByteArray) (hs : s.size ≤ 140737488351232) (d : Nat) : ∀ i : Nat, i + d = s.size → ∃ z, Ev (fun k => spec_Token.l0 k s (i : Int)) z ∧ (z = true → s.size ≠ 0 ∧ ∀ j, i ≤ j → ∀ h : j < (bl s).length, (bl s)[j] ≠ 13 ∧ (bl s)[j] ≠ 10) := by
  induction d with
  | zero =>
    intro i h
    refine ⟨s.toList != ([] : List UInt8), Ev.step (f := fun _ => some (s.toList != ([] : List UInt8))) (fun k => ?_) (Ev.now _), fun e => ⟨fun h0 => ?_, fun j hj hjl => ?_⟩⟩
    · simp only [spec_Token.l0]
      rw [if_neg (by omega)]
    · rw [toList_bl, List.eq_nil_of_length_eq_zero (show (bl s).length = 0 by rw [bl_len]; exact h0)] at e
      revert e
      decide
    · rw [bl_len] at hjl
      omega
  | succ d ih =>
    intro i h
    have hi : i < (bl s).length := by rw [bl_len]; omega
    have hc := bt_get s i hi
    by_cases g : (97 ≤ bt s (i : Int) ∧ bt s (i : Int) ≤ 122) ∨ (65 ≤ bt s (i : Int) ∧ bt s (i : Int) ≤ 90) ∨ (48 ≤ bt s (i : Int) ∧ bt s (i : Int) ≤ 57) ∨ bt s (i : Int) = 45
    · obtain ⟨z, hz, hz2⟩ := ih (i + 1) (by omega)
      refine ⟨z, Ev.step (f := fun k => spec_Token.l0 k s ((i + 1 : Nat) : Int)) (fun k => ?_) hz, fun e => ⟨(hz2 e).1, fun j hj hjl => ?_⟩⟩
      · simp only [spec_Token.l0]
        rw [if_pos (by omega), if_pos (by omega), wrap_nat i (by omega)]
        generalize bt s (i : Int) = c at g
        repeat' split
        all_goals first | rfl | (exfalso; omega)
      · by_cases e2 : j = i
        · subst e2
          rw [hc] at g
          constructor
          · intro e3; rw [e3] at g; revert g; decide
          · intro e3; rw [e3] at g; revert g; decide
        · exact (hz2 e).2 j (by omega) hjl
    · refine ⟨false, Ev.step (f := fun _ => some false) (fun k => ?_) (Ev.now _), fun e => by cases e⟩
      simp only [spec_Token.l0]
      rw [if_pos (by omega), if_pos (by omega)]
      generalize bt s (i : Int) = c at g
      repeat' split
      all_goals first | rfl | (exfalso; omega)
theorem Token_ev (s : ByteArray) (hs : s.size ≤ 140737488351232) : ∃ z, Ev (fun k => spec_Token.f k s) z ∧ (z = true → TokB (bl s)) := by
  obtain ⟨z, hz, h2⟩ := Token_loop s hs s.size 0 (by omega)
  refine ⟨z, hz, fun e => ⟨fun e0 => (h2 e).1 (by rw [← bl_len, e0]; rfl), fun c hc => ?_⟩⟩
  obtain ⟨j, hj, rfl⟩ := List.getElem_of_mem hc
  exact (h2 e).2 j (Nat.zero_le _) hj
theorem Field_loop (s : ByteArray) (hs : s.size ≤ 140737488351232) (d : Nat) : ∀ i : Nat, i + d = s.size → ∃ z, Ev (fun k => spec_Field.l0 k s (i : Int)) z ∧ (z = true → ∀ j, i ≤ j → ∀ h : j < (bl s).length, ((bl s)[j] ≠ 13 ∧ (bl s)[j] ≠ 10) ∧ (j = 0 → (bl s)[j] ≠ 32)) := by
  induction d with
  | zero =>
    intro i h
    refine ⟨true, Ev.step (f := fun _ => some true) (fun k => ?_) (Ev.now _), fun e j hj hjl => ?_⟩
    · simp only [spec_Field.l0]
      rw [if_neg (by omega)]
    · rw [bl_len] at hjl
      omega
  | succ d ih =>
    intro i h
    have hi : i < (bl s).length := by rw [bl_len]; omega
    have hc := bt_get s i hi
    by_cases g : 32 ≤ bt s (i : Int) ∧ bt s (i : Int) ≤ 126 ∧ (bt s (i : Int) = 32 → i ≠ 0 ∧ i + 1 ≠ s.size)
    · obtain ⟨z, hz, hz2⟩ := ih (i + 1) (by omega)
      refine ⟨z, Ev.step (f := fun k => spec_Field.l0 k s ((i + 1 : Nat) : Int)) (fun k => ?_) hz, fun e j hj hjl => ?_⟩
      · simp only [spec_Field.l0]
        rw [if_pos (by omega), if_pos (by omega), wrap_nat i (by omega)]
        generalize bt s (i : Int) = c at g
        repeat' split
        all_goals first | rfl | (exfalso; omega)
      · by_cases e2 : j = i
        · subst e2
          rw [hc] at g
          refine ⟨⟨?_, ?_⟩, ?_⟩
          · intro e3; rw [e3] at g; have := g.1; revert this; decide
          · intro e3; rw [e3] at g; have := g.1; revert this; decide
          · intro e4 e3; rw [e3] at g; exact (g.2.2 (by decide)).1 e4
        · exact hz2 e j (by omega) hjl
    · refine ⟨false, Ev.step (f := fun _ => some false) (fun k => ?_) (Ev.now _), fun e => by cases e⟩
      simp only [spec_Field.l0]
      rw [if_pos (by omega), if_pos (by omega), wrap_nat i (by omega)]
      generalize bt s (i : Int) = c at g
      repeat' split
      all_goals first | rfl | (exfalso; omega)
theorem Field_ev (s : ByteArray) (hs : s.size ≤ 140737488351232) : ∃ z, Ev (fun k => spec_Field.f k s) z ∧ (z = true → ValB (bl s)) := by
  obtain ⟨z, hz, h2⟩ := Field_loop s hs s.size 0 (by omega)
  refine ⟨z, hz, fun e => ⟨fun c hc => ?_, fun h => ?_⟩⟩
  · obtain ⟨j, hj, rfl⟩ := List.getElem_of_mem hc
    exact (h2 e j (Nat.zero_le _) hj).1
  · cases hb : bl s with
    | nil => rw [hb] at h; cases h
    | cons c t =>
      have h0 : 0 < (bl s).length := by rw [hb]; simp
      have := (h2 e 0 (Nat.le_refl _) h0).2 rfl
      rw [hb] at h
      simp only [List.head?_cons, Option.some.injEq] at h
      exact this (by simp only [hb, List.getElem_cons_zero]; exact h)

theorem son1 (c : Int) : (strOfNums [c]).size = 1 := rfl
theorem lower_loop (s : ByteArray) (hs : s.size ≤ 140737488351232) (d : Nat) : ∀ (i : Nat) (t : ByteArray), i + d = s.size → t.size ≤ i → ∃ z, Ev (fun k => laws_lower.l0 k s t (i : Int)) z := by
  induction d with
  | zero =>
    intro i t h ht
    refine ⟨t, Ev.step (f := fun _ => some t) (fun k => ?_) (Ev.now _)⟩
    simp only [laws_lower.l0]
    rw [if_neg (by omega)]
  | succ d ih =>
    intro i t h ht
    by_cases g : 65 ≤ bt s (i : Int) ∧ bt s (i : Int) ≤ 90
    · obtain ⟨z, hz⟩ := ih (i + 1) (t ++ strOfNums [(bt s (i : Int) + 32) % 256]) (by omega) (by rw [ByteArray.size_append, son1]; omega)
      refine ⟨z, Ev.step (f := fun k => laws_lower.l0 k s (t ++ strOfNums [(bt s (i : Int) + 32) % 256]) ((i + 1 : Nat) : Int)) (fun k => ?_) hz⟩
      simp only [laws_lower.l0, Option.bind_some]
      rw [if_pos (by omega), if_pos (by omega), if_pos g.1, if_pos g.2, if_pos (by rw [son1]; omega), wrap_nat i (by omega)]
    · obtain ⟨z, hz⟩ := ih (i + 1) (t ++ strOfNums [bt s (i : Int)]) (by omega) (by rw [ByteArray.size_append, son1]; omega)
      refine ⟨z, Ev.step (f := fun k => laws_lower.l0 k s (t ++ strOfNums [bt s (i : Int)]) ((i + 1 : Nat) : Int)) (fun k => ?_) hz⟩
      simp only [laws_lower.l0, Option.bind_some]
      rw [if_pos (by omega), if_pos (by omega), wrap_nat i (by omega)]
      by_cases g1 : bt s (i : Int) ≥ 65
      · rw [if_pos g1, if_neg (fun h => g ⟨g1, h⟩), if_pos (by rw [son1]; omega)]
      · rw [if_neg g1, if_pos (by rw [son1]; omega)]
theorem lower_ev (s : ByteArray) (hs : s.size ≤ 140737488351232) : ∃ z, Ev (fun k => laws_lower.f k s) z := by
  obtain ⟨z, hz⟩ := lower_loop s hs s.size 0 ⟨#[]⟩ (by omega) (by show 0 ≤ 0; omega)
  exact ⟨z, hz⟩
def OkL (l : List S37) : Prop := l.length ≤ 140737488351232 ∧ ∀ x ∈ l, x.f0.size ≤ 140737488351232 ∧ x.f1.size ≤ 140737488351232
theorem Fine_loop (l : List S37) (hl : OkL l) (d : Nat) : ∀ i : Nat, i + d = l.length → ∃ z, Ev (fun k => spec_Fine.l0 k l (i : Int)) z ∧ (z = true → ∀ x ∈ l.drop i, TokB (bl x.f0) ∧ ValB (bl x.f1)) := by
  obtain ⟨hn, hx⟩ := hl
  induction d with
  | zero =>
    intro i h
    refine ⟨true, Ev.step (f := fun _ => some true) (fun k => ?_) (Ev.now _), fun _ x hx => ?_⟩
    · simp only [spec_Fine.l0]
      rw [if_neg (by omega)]
    · rw [List.drop_eq_nil_of_le (by omega)] at hx
      cases hx
  | succ d ih =>
    intro i h
    have hi : i < l.length := by omega
    have hxi := hx l[i] (List.getElem_mem hi)
    obtain ⟨a, ha, ha2⟩ := Token_ev l[i].f0 hxi.1
    obtain ⟨b, hb, hb2⟩ := Field_ev l[i].f1 hxi.2
    have hs : ∀ k, spec_Fine.l0 (k + 1) l (i : Int) = (spec_Token.f k l[i].f0).bind fun t => if t = true then (spec_Field.f k l[i].f1).bind fun u => if u = true then spec_Fine.l0 k l ((i + 1 : Nat) : Int) else some false else some false := by
      intro k
      simp only [spec_Fine.l0]
      rw [if_pos (by omega), if_pos (by omega), rdT l i hi, wrap_nat i (by omega)]
    cases a with
    | false => exact ⟨false, Ev.step hs (Ev.bind ha (Ev.now _)), fun e => by cases e⟩
    | true =>
      cases b with
      | false => exact ⟨false, Ev.step hs (Ev.bind ha (Ev.bind hb (Ev.now _))), fun e => by cases e⟩
      | true =>
        obtain ⟨z, hz, hz2⟩ := ih (i + 1) (by omega)
        refine ⟨z, Ev.step hs (Ev.bind ha (Ev.bind hb hz)), fun e x hm => ?_⟩
        rw [List.drop_eq_getElem_cons hi] at hm
        rcases List.mem_cons.1 hm with rfl | hm
        · exact ⟨ha2 rfl, hb2 rfl⟩
        · exact hz2 e x hm

theorem Fine_ev (l : List S37) (hl : OkL l) : ∃ z, Ev (fun k => spec_Fine.f k l) z ∧ (z = true → ∀ x ∈ l, TokB (bl x.f0) ∧ ValB (bl x.f1)) := by
  obtain ⟨z, hz, h2⟩ := Fine_loop l hl l.length 0 (by omega)
  exact ⟨z, hz, fun e x hx => h2 e x (by rwa [List.drop_zero])⟩
theorem Get_loop (l : List S37) (key : ByteArray) (hl : l.length ≤ 140737488351232) (d : Nat) : ∀ i : Nat, i + d = l.length → ∃ v b, Ev (fun k => spec_Get.l0 k l key (i : Int)) (v, b) ∧ (b = true ↔ ∃ x ∈ l.drop i, x.f0 = key) := by
  induction d with
  | zero =>
    intro i h
    refine ⟨⟨#[]⟩, false, Ev.step (f := fun _ => some (⟨#[]⟩, false)) (fun k => ?_) (Ev.now _), ?_⟩
    · simp only [spec_Get.l0]
      rw [if_neg (by omega)]
    · rw [List.drop_eq_nil_of_le (by omega)]
      simp
  | succ d ih =>
    intro i h
    have hi : i < l.length := by omega
    by_cases e : l[i].f0 = key
    · refine ⟨l[i].f1, true, Ev.step (f := fun _ => some (l[i].f1, true)) (fun k => ?_) (Ev.now _), ?_⟩
      · simp only [spec_Get.l0]
        rw [if_pos (by omega), if_pos (by omega), rdT l i hi, if_pos (by rw [e])]
      · rw [List.drop_eq_getElem_cons hi]
        exact ⟨fun _ => ⟨_, List.mem_cons_self, e⟩, fun _ => rfl⟩
    · obtain ⟨v, b, hz, h2⟩ := ih (i + 1) (by omega)
      refine ⟨v, b, Ev.step (f := fun k => spec_Get.l0 k l key ((i + 1 : Nat) : Int)) (fun k => ?_) hz, ?_⟩
      · simp only [spec_Get.l0]
        rw [if_pos (by omega), if_pos (by omega), rdT l i hi, if_neg (fun h => e (bl_inj (by rw [← toList_bl, ← toList_bl, h]))), wrap_nat i (by omega)]
      · rw [h2, List.drop_eq_getElem_cons hi]
        constructor
        · rintro ⟨x, hx, hk⟩; exact ⟨x, List.mem_cons_of_mem _ hx, hk⟩
        · rintro ⟨x, hx, hk⟩
          rcases List.mem_cons.1 hx with rfl | hx
          · exact absurd hk e
          · exact ⟨x, hx, hk⟩
/-- Without the first line of the key. -/
def withoutL (key : ByteArray) : List S37 → List S37
  | [] => []
  | x :: xs => if x.f0 = key then xs else x :: withoutL key xs

theorem headed_loop (l : List S37) (hl : OkL l) (d : Nat) : ∀ i : Nat, i + d = l.length → ∃ z, Ev (fun k => laws_headed.l0 k l (i : Int)) z ∧ (z = true → ∀ x ∈ l.drop i, x.f0.size ≤ 40 ∧ x.f1.size ≤ 60) := by
  obtain ⟨hn, hx⟩ := hl
  induction d with
  | zero =>
    intro i h
    refine ⟨true, Ev.step (f := fun _ => some true) (fun k => ?_) (Ev.now _), fun _ x hm => ?_⟩
    · simp only [laws_headed.l0]
      rw [if_neg (by omega)]
    · rw [List.drop_eq_nil_of_le (by omega)] at hm
      cases hm
  | succ d ih =>
    intro i h
    have hi : i < l.length := by omega
    obtain ⟨z0, hz0, h0⟩ := ih (i + 1) (by omega)
    have inner : ∀ e j : Nat, j + e = i → ∃ z, Ev (fun k => laws_headed.l1 k l (i : Int) (j : Int)) z ∧ (z = true → ∀ x ∈ l.drop (i + 1), x.f0.size ≤ 40 ∧ x.f1.size ≤ 60) := by
      intro e
      induction e with
      | zero =>
        intro j hj
        refine ⟨z0, Ev.step (f := fun k => laws_headed.l0 k l ((i + 1 : Nat) : Int)) (fun k => ?_) hz0, h0⟩
        simp only [laws_headed.l1]
        rw [if_neg (by omega), wrap_nat i (by omega)]
      | succ e ihe =>
        intro j hj
        have hjl : j < l.length := by omega
        obtain ⟨a, ha⟩ := lower_ev l[j].f0 (hx l[j] (List.getElem_mem hjl)).1
        obtain ⟨b, hb⟩ := lower_ev l[i].f0 (hx l[i] (List.getElem_mem hi)).1
        have hs : ∀ k, laws_headed.l1 (k + 1) l (i : Int) (j : Int) = (laws_lower.f k l[j].f0).bind fun t => (laws_lower.f k l[i].f0).bind fun u => if t.toList = u.toList then some false else laws_headed.l1 k l (i : Int) ((j + 1 : Nat) : Int) := by
          intro k
          simp only [laws_headed.l1]
          rw [if_pos (by omega), if_pos (by omega), if_pos (by omega)]
          simp only [if_pos (show (0 : Int) ≤ (i : Int) by omega), if_pos (show (i : Int) < (l.length : Int) by omega), rdT l i hi, rdT l j hjl, wrap_nat j (show j < 9223372036854775807 by omega)]
        by_cases e1 : a.toList = b.toList
        · exact ⟨false, Ev.step hs (Ev.bind ha (Ev.bind hb (Ev.congr (f := fun _ => some false) (fun k => if_pos e1) (Ev.now _)))), fun e => by cases e⟩
        · obtain ⟨z, hz, h2⟩ := ihe (j + 1) (by omega)
          exact ⟨z, Ev.step hs (Ev.bind ha (Ev.bind hb (Ev.congr (f := fun k => laws_headed.l1 k l (i : Int) ((j + 1 : Nat) : Int)) (fun k => if_neg e1) hz))), h2⟩
    obtain ⟨z1, hz1, h1⟩ := inner i 0 (by omega)
    have hf : Ev (fun k => laws_headed.j2 k l (i : Int) true) false := Ev.step (f := fun _ => some false) (fun k => by simp only [laws_headed.j2, if_true]) (Ev.now _)
    have hg : Ev (fun k => laws_headed.j2 k l (i : Int) false) z1 := Ev.step (f := fun k => laws_headed.l1 k l (i : Int) ((0 : Nat) : Int)) (fun k => by simp only [laws_headed.j2]; rw [if_neg (by decide)]; rfl) hz1
    by_cases g1 : l[i].f0.size > 40
    · refine ⟨false, Ev.step (f := fun k => laws_headed.j2 k l (i : Int) true) (fun k => ?_) hf, fun e => by cases e⟩
      simp only [laws_headed.l0]
      rw [if_pos (by omega), if_pos (by omega), rdT l i hi, if_pos (by omega)]
    · by_cases g2 : l[i].f1.size > 60
      · refine ⟨false, Ev.step (f := fun k => laws_headed.j2 k l (i : Int) true) (fun k => ?_) hf, fun e => by cases e⟩
        simp only [laws_headed.l0]
        rw [if_pos (by omega), if_pos (by omega), rdT l i hi, if_neg (by omega), decide_eq_true (by omega)]
      · refine ⟨z1, Ev.step (f := fun k => laws_headed.j2 k l (i : Int) false) (fun k => ?_) hg, fun e x hm => ?_⟩
        · simp only [laws_headed.l0]
          rw [if_pos (by omega), if_pos (by omega), rdT l i hi, if_neg (by omega), decide_eq_false (by omega)]
        · rw [List.drop_eq_getElem_cons hi] at hm
          rcases List.mem_cons.1 hm with rfl | hm
          · exact ⟨by omega, by omega⟩
          · exact h1 e x hm
theorem headed_ev (l : List S37) (hl : OkL l) : ∃ z, Ev (fun k => laws_headed.f k l) z ∧ (z = true → SmallL l ∧ ∀ x ∈ l, TokB (bl x.f0) ∧ ValB (bl x.f1)) := by
  have hf : Ev (fun k => laws_headed.j0 k l true) false := Ev.step (f := fun _ => some false) (fun k => by simp only [laws_headed.j0, if_true]) (Ev.now _)
  obtain ⟨z1, hz1, h1⟩ := headed_loop l hl l.length 0 (by omega)
  have hg : Ev (fun k => laws_headed.j0 k l false) z1 := Ev.step (f := fun k => laws_headed.l0 k l ((0 : Nat) : Int)) (fun k => by simp only [laws_headed.j0]; rw [if_neg (by decide)]; rfl) hz1
  obtain ⟨b, hb, h2⟩ := Fine_ev l hl
  by_cases g : (l.length : Int) > 8
  · exact ⟨false, Ev.congr (fun k => if_pos g) hf, fun e => by cases e⟩
  · cases b with
    | false => exact ⟨false, Ev.congr (fun k => if_neg g) (Ev.bind hb hf), fun e => by cases e⟩
    | true =>
      refine ⟨z1, Ev.congr (fun k => if_neg g) (Ev.bind hb hg), fun e => ⟨⟨by omega, fun x hx => h1 e x (by rwa [List.drop_zero])⟩, h2 rfl⟩⟩
theorem Get_ev (l : List S37) (key : ByteArray) (hl : l.length ≤ 140737488351232) : ∃ v b, Ev (fun k => spec_Get.f k l key) (v, b) ∧ (b = true ↔ ∃ x ∈ l, x.f0 = key) := by
  obtain ⟨v, b, h, h2⟩ := Get_loop l key hl l.length 0 (by omega)
  rw [List.drop_zero] at h2
  exact ⟨v, b, h, h2⟩

open _root_.Go.Proofs.Ytmfblbjklmgncaa.HeadW
theorem body_small (l : List S37) (h : ∀ x ∈ l, x.f0.size ≤ 40 ∧ x.f1.size ≤ 60) : (bodyB (prs l)).length ≤ l.length * 104 := by
  induction l with
  | nil => exact Nat.zero_le _
  | cons x l ih =>
    have h1 := h x List.mem_cons_self
    have h2 := ih (fun y hy => h y (List.mem_cons_of_mem _ hy))
    have e : bodyB (prs (x :: l)) = lineB (bl x.f0, bl x.f1) ++ bodyB (prs l) := rfl
    rw [e, List.length_append]
    have e2 : (lineB (bl x.f0, bl x.f1)).length = x.f0.size + 2 + x.f1.size + 2 := by
      simp only [lineB, List.length_append, List.length_cons, List.length_nil, bl_len]
      omega
    rw [e2, List.length_cons]
    omega
theorem hdr_small (l : List S37) (h : SmallL l) : (hdrB (prs l)).length ≤ 1000 := by
  have := body_small l h.2
  have h1 := h.1
  simp only [hdrB, preB, List.length_append, List.length_cons, List.length_nil]
  omega
theorem known_loop (l : List S37) (key : ByteArray) (hl : OkL l) (hk : key.size ≤ 140737488351232) (d : Nat) : ∀ i : Nat, i + d = l.length → ∃ z, Ev (fun k => laws_knownKey.l0 k l key (i : Int)) z ∧ (z = true → TokB (bl key) ∧ key.size ≤ 40) := by
  obtain ⟨hn, hx⟩ := hl
  induction d with
  | zero =>
    intro i h
    obtain ⟨a, ha, ha2⟩ := Token_ev key hk
    have hs : ∀ k, laws_knownKey.l0 (k + 1) l key (i : Int) = (spec_Token.f k key).bind fun t => if t = true then some (decide ((key.size : Int) ≤ 40)) else some false := by
      intro k
      simp only [laws_knownKey.l0]
      rw [if_neg (by omega)]
    cases a with
    | false => exact ⟨false, Ev.step hs (Ev.bind ha (Ev.now _)), fun e => by cases e⟩
    | true => exact ⟨_, Ev.step hs (Ev.bind ha (Ev.now _)), fun e => ⟨ha2 rfl, by have := of_decide_eq_true e; omega⟩⟩
  | succ d ih =>
    intro i h
    have hi : i < l.length := by omega
    have hw := wrap_nat i (by omega)
    obtain ⟨z, hz, h2⟩ := ih (i + 1) (by omega)
    by_cases e : (l[i].f0).toList = key.toList
    · refine ⟨z, Ev.step (f := fun k => laws_knownKey.l0 k l key ((i + 1 : Nat) : Int)) (fun k => ?_) hz, h2⟩
      simp only [laws_knownKey.l0]
      rw [if_pos (by omega), if_pos (by omega), rdT l i hi, if_pos e, hw]
    · obtain ⟨a, ha⟩ := lower_ev l[i].f0 (hx l[i] (List.getElem_mem hi)).1
      obtain ⟨b, hb⟩ := lower_ev key hk
      have hs : ∀ k, laws_knownKey.l0 (k + 1) l key (i : Int) = (laws_lower.f k l[i].f0).bind fun t => (laws_lower.f k key).bind fun u => if t.toList = u.toList then some false else laws_knownKey.l0 k l key ((i + 1 : Nat) : Int) := by
        intro k
        simp only [laws_knownKey.l0]
        rw [if_pos (by omega), if_pos (by omega), rdT l i hi, if_neg e, hw]
      by_cases e1 : a.toList = b.toList
      · exact ⟨false, Ev.step hs (Ev.bind ha (Ev.bind hb (Ev.congr (f := fun _ => some false) (fun k => if_pos e1) (Ev.now _)))), fun e => by cases e⟩
      · exact ⟨z, Ev.step hs (Ev.bind ha (Ev.bind hb (Ev.congr (f := fun k => laws_knownKey.l0 k l key ((i + 1 : Nat) : Int)) (fun k => if_neg e1) hz))), h2⟩
theorem times_ev (s p : ByteArray) (hs : s.size ≤ 100000) (hp : p.size ≤ 100000) : Ev (fun k => laws_times.f k s p) ((cntF (bl s) (bl p) (s.size + 1 - p.size) 0 : Nat) : Int) := by
  have := times_loop s p hs hp (s.size + 1 - p.size) 0 0 (by omega) (by omega) (by omega)
  rw [Nat.zero_add] at this
  exact this
theorem known_ev (l : List S37) (key : ByteArray) (hl : OkL l) (hs : SmallL l) (hk : key.size ≤ 140737488351232) : ∃ z, Ev (fun k => laws_knownKey.f k l key) z ∧
    (z = true → TokB (bl key) ∧ key.size ≤ 40 ∧ ∃ b : Bool, (b = true ↔ ∃ x ∈ l, x.f0 = key) ∧ cntF (hdrB (prs l)) (bl key) ((hdrB (prs l)).length + 1 - key.size) 0 = if b = true then 1 else 0) := by
  obtain ⟨v, b, hg, hb⟩ := Get_ev l key hl.1
  obtain ⟨z, hz, h2⟩ := known_loop l key hl hk l.length 0 (by omega)
  have hf : Ev (fun k => laws_knownKey.j1 k l key true) false := Ev.step (f := fun _ => some false) (fun k => by simp only [laws_knownKey.j1, if_true]) (Ev.now _)
  have hh : Ev (fun k => laws_knownKey.j1 k l key false) z := Ev.step (f := fun k => laws_knownKey.l0 k l key ((0 : Nat) : Int)) (fun k => by simp only [laws_knownKey.j1]; rw [if_neg (by decide)]; rfl) hz
  have hj : ∀ n : Nat, ∃ z, Ev (fun k => laws_knownKey.j0 k l key (n : Int)) z ∧ (z = true → TokB (bl key) ∧ key.size ≤ 40 ∧ cntF (hdrB (prs l)) (bl key) ((hdrB (prs l)).length + 1 - key.size) 0 = n) := by
    intro n
    by_cases g : (key.size : Int) > 40
    · refine ⟨false, Ev.step (f := fun k => laws_knownKey.j1 k l key true) (fun k => ?_) hf, fun e => by cases e⟩
      simp only [laws_knownKey.j0]
      rw [if_pos g]
    · have hH := Header_ev l hs
      have hsz : (mkB (hdrB (prs l))).size = (hdrB (prs l)).length := by rw [← bl_len, bl_mkB]
      have hT := times_ev (mkB (hdrB (prs l))) key (by rw [hsz]; have := hdr_small l hs; omega) (by omega)
      rw [hsz, bl_mkB] at hT
      generalize hC : cntF (hdrB (prs l)) (bl key) ((hdrB (prs l)).length + 1 - key.size) 0 = C at hT ⊢
      have hs2 : ∀ k, laws_knownKey.j0 (k + 1) l key (n : Int) = (spec_Header.f k l).bind fun t => (laws_times.f k t key).bind fun u => laws_knownKey.j1 k l key (u != (n : Int)) := by
        intro k
        simp only [laws_knownKey.j0]
        rw [if_neg g]
      by_cases e : C = n
      · refine ⟨z, Ev.step hs2 (Ev.bind hH (Ev.bind hT (Ev.congr (f := fun k => laws_knownKey.j1 k l key false) (fun k => ?_) hh))), fun ez => ⟨(h2 ez).1, (h2 ez).2, e⟩⟩
        rw [e, bne_self_eq_false]
      · refine ⟨false, Ev.step hs2 (Ev.bind hH (Ev.bind hT (Ev.congr (f := fun k => laws_knownKey.j1 k l key true) (fun k => ?_) hf))), fun e => by cases e⟩
        rw [show ((C : Int) != (n : Int)) = true from bne_iff_ne.2 (by omega)]
  cases b with
  | true =>
    obtain ⟨y, hy, h3⟩ := hj 1
    exact ⟨y, Ev.bind hg hy, fun e => ⟨(h3 e).1, (h3 e).2.1, true, hb, (h3 e).2.2⟩⟩
  | false =>
    obtain ⟨y, hy, h3⟩ := hj 0
    exact ⟨y, Ev.bind hg hy, fun e => ⟨(h3 e).1, (h3 e).2.1, false, hb, (h3 e).2.2⟩⟩

theorem getL_none {H p : Bs} (h : ∀ j, ¬ hitB H p j) : getL (I8 H) p.length (I8 p) = some none := by
  unfold getL
  rw [fh_none h]
theorem getL_some (a b : List (Bs × Bs)) (x : Bs × Bs) (hp : TokB x.1) (hv : ValB x.2) (h1 : ∀ j, j < (preB ++ bodyB a).length → ¬ hitB (hdrB (a ++ x :: b)) x.1 j) :
    getL (I8 (hdrB (a ++ x :: b))) x.1.length (I8 x.1) = some (some (I8 x.2)) := by
  obtain ⟨p, v⟩ := x
  obtain ⟨q, hq⟩ := pre_end a
  have hs := hdr_split a b (p, v)
  simp only at hs hp hv h1 ⊢
  rw [hs] at h1 ⊢
  generalize hP : preB ++ bodyB a = P at hq h1 ⊢
  generalize hr : bodyB b ++ [13, 10] = r at h1 ⊢
  have hrl : r ≠ [] := by rw [← hr]; simp
  have hrp : 0 < r.length := List.length_pos_iff.2 hrl
  have hPl : P.length = q.length + 2 := by rw [hq]; simp
  have hh : hitB (P ++ ((p ++ ([58, 32] ++ (v ++ [13, 10]))) ++ r)) p P.length := by
    rw [List.append_assoc p]
    exact hitB_mid P p _
  have hf := fh_is hp.1 hh h1
  have g1 : rd (I8 (P ++ ((p ++ ([58, 32] ++ (v ++ [13, 10]))) ++ r))) ((P.length - 1 : Nat) : Int) = 10 := by
    refine rd_I8 (c := 10) ?_
    rw [hPl, hq, show q.length + 2 - 1 = q.length + 1 by omega, List.append_assoc, List.getElem?_append_right (by omega)]
    simp
  have g2 : rd (I8 (P ++ ((p ++ ([58, 32] ++ (v ++ [13, 10]))) ++ r))) ((P.length - 2 : Nat) : Int) = 13 := by
    refine rd_I8 (c := 13) ?_
    rw [hPl, hq, show q.length + 2 - 2 = q.length by omega, List.append_assoc, List.getElem?_append_right (by omega)]
    simp
  have g3 : rd (I8 (P ++ ((p ++ ([58, 32] ++ (v ++ [13, 10]))) ++ r))) ((P.length + p.length : Nat) : Int) = 58 := by
    refine rd_I8 (c := 58) ?_
    rw [List.getElem?_append_right (by omega), Nat.add_sub_cancel_left, List.append_assoc p, List.getElem?_append_right (by omega)]
    simp
  have hlen : (I8 (P ++ ((p ++ ([58, 32] ++ (v ++ [13, 10]))) ++ r))).length = P.length + (p.length + 2 + v.length + 2) + r.length := by rw [I8_len]; simp; omega
  have eQ : P ++ ((p ++ ([58, 32] ++ (v ++ [13, 10]))) ++ r) = (P ++ (p ++ [58, 32])) ++ (v ++ ([13, 10] ++ r)) := by simp
  have hQ : (P ++ (p ++ [58, 32])).length = P.length + p.length + 2 := by simp; omega
  have at_ : ∀ j c, (v ++ ([13, 10] ++ r))[j]? = some c → rd (I8 (P ++ ((p ++ ([58, 32] ++ (v ++ [13, 10]))) ++ r))) ((P.length + p.length + 2 + j : Nat) : Int) = (c.toNat : Int) := by
    intro j c hc
    refine rd_I8 ?_
    rw [eQ, List.getElem?_append_right (by omega), hQ, Nat.add_sub_cancel_left, hc]
  have g4 : rd (I8 (P ++ ((p ++ ([58, 32] ++ (v ++ [13, 10]))) ++ r))) ((P.length + p.length + 1 : Nat) : Int) = 32 := by
    refine rd_I8 (c := 32) ?_
    rw [Nat.add_assoc, List.getElem?_append_right (by omega), Nat.add_sub_cancel_left, List.append_assoc p, List.getElem?_append_right (by omega), Nat.add_sub_cancel_left]
    simp
  have hend13 := at_ v.length 13 (by rw [List.getElem?_append_right (by omega), Nat.sub_self]; rfl)
  have hend10 := at_ (v.length + 1) 10 (by rw [List.getElem?_append_right (by omega), Nat.add_sub_cancel_left]; rfl)
  have hv0 : rd (I8 (P ++ ((p ++ ([58, 32] ++ (v ++ [13, 10]))) ++ r))) ((P.length + p.length + 2 : Nat) : Int) ≠ 32 := by
    cases v with
    | nil =>
      have := at_ 0 13 rfl
      rw [Nat.add_zero] at this
      rw [this]
      decide
    | cons c v =>
      have := at_ 0 c rfl
      rw [Nat.add_zero] at this
      rw [this]
      intro e
      refine hv.2 ?_
      rw [List.head?_cons, show c = 32 from UInt8.toNat_inj.1 (Int.ofNat.inj e)]
  have f1 : (List.range (I8 (P ++ ((p ++ ([58, 32] ++ (v ++ [13, 10]))) ++ r))).length).find? (fun k => decide (P.length + p.length + 1 ≤ k) && decide (rd (I8 (P ++ ((p ++ ([58, 32] ++ (v ++ [13, 10]))) ++ r))) (k : Int) ≠ 32)) = some (P.length + p.length + 2) := by
    refine List.find?_range_eq_some.2 ⟨?_, List.mem_range.2 (by omega), fun j hj => ?_⟩
    · rw [decide_eq_true (by omega), decide_eq_true hv0]; rfl
    · by_cases e : P.length + p.length + 1 ≤ j
      · rw [show j = P.length + p.length + 1 by omega, g4]
        simp
      · rw [decide_eq_false e]
        rfl
  have f2 : (List.range (I8 (P ++ ((p ++ ([58, 32] ++ (v ++ [13, 10]))) ++ r))).length).find? (fun k => decide (P.length + p.length + 2 ≤ k) && (decide (rd (I8 (P ++ ((p ++ ([58, 32] ++ (v ++ [13, 10]))) ++ r))) (k : Int) = 13) && decide (rd (I8 (P ++ ((p ++ ([58, 32] ++ (v ++ [13, 10]))) ++ r))) ((k + 1 : Nat) : Int) = 10))) = some (P.length + p.length + 2 + v.length) := by
    refine List.find?_range_eq_some.2 ⟨?_, List.mem_range.2 (by omega), fun j hj => ?_⟩
    · rw [decide_eq_true (show P.length + p.length + 2 ≤ P.length + p.length + 2 + v.length by omega), hend13, Nat.add_assoc _ v.length 1, hend10]; decide
    · by_cases e : P.length + p.length + 2 ≤ j
      · obtain ⟨m, rfl⟩ := Nat.exists_eq_add_of_le e
        have hm : m < v.length := by omega
        have := at_ m v[m] (by rw [List.getElem?_append_left hm, List.getElem?_eq_getElem hm])
        rw [this, decide_eq_false (show ¬ ((v[m].toNat : Nat) : Int) = 13 from fun e => (hv.1 v[m] (List.getElem_mem hm)).1 (UInt8.toNat_inj.1 (Int.ofNat.inj e))), Bool.false_and, Bool.and_false]
        rfl
      · rw [decide_eq_false e]
        rfl
  unfold getL
  simp only [hf]
  rw [if_pos ⟨by omega, by omega, g1, g2, g3⟩]
  simp only [f1, f2]
  rw [if_pos (by omega), I8_drop, I8_take, eQ, ← hQ, List.drop_left, Nat.add_sub_cancel_left, List.take_left]
theorem impl_Get (H : Bs) (key : ByteArray) (hH : 0 < H.length) (hH2 : H.length ≤ 536870911) (hk : TokB (bl key)) (hk2 : key.size ≤ 40) (o : Option (List Int)) (h : getL (I8 H) (bl key).length (I8 (bl key)) = some o) :
    impl_HeaderGet.f (mkB H) key = some (o.getD [], o.isSome) := by
  have hkp : 0 < key.size := by rw [← bl_len]; exact List.length_pos_iff.2 hk.1
  have hs : (mkB H).size = H.length := by rw [← bl_len, bl_mkB]
  unfold impl_HeaderGet.f impl_HeaderGetR.f
  rw [hs, if_pos hH2, bytesOf_mkB, if_pos ⟨hkp, by omega, by rw [List.length_map]; exact hH, by rw [List.length_map]; omega⟩, I8_bytesOf, ← bl_len key]
  unfold I8 at h
  unfold I8
  rw [h]
  rfl
theorem awake_ev : Ev (fun k => laws_awakeHeader.f k) true := by
  have hS : SmallL [(⟨(⟨#[73, 100]⟩ : ByteArray), (⟨#[55]⟩ : ByteArray)⟩ : S37)] := ⟨by decide, by
    intro x hx
    obtain rfl := List.mem_singleton.1 hx
    exact ⟨by decide, by decide⟩⟩
  have h1 := Header_ev _ hS
  have e1 : prs [(⟨(⟨#[73, 100]⟩ : ByteArray), (⟨#[55]⟩ : ByteArray)⟩ : S37)] = [] ++ (([73, 100] : Bs), ([55] : Bs)) :: [] := rfl
  rw [e1] at h1
  have ht : TokB (bl (⟨#[73, 100]⟩ : ByteArray)) := ⟨by decide, by decide⟩
  have g := getL_some [] [] (([73, 100] : Bs), ([55] : Bs)) ht ⟨by decide, by decide⟩ (by decide)
  have h2 := impl_Get (hdrB ([] ++ (([73, 100] : Bs), ([55] : Bs)) :: [])) (⟨#[73, 100]⟩ : ByteArray) (by decide) (by decide) ht (by decide) _ g
  unfold laws_awakeHeader.f
  refine Ev.bind h1 (Ev.congr (f := fun _ => some true) (fun k => ?_) (Ev.now _))
  rw [h2, Option.bind_some]
  show some ((strOfNums (I8 [55])).toList == ([55] : List UInt8)) = some true
  rw [son_I8, toList_mkB]
  rfl

theorem split_first (key : ByteArray) : ∀ l : List S37, (∃ x ∈ l, x.f0 = key) → ∃ a x b, l = a ++ x :: b ∧ x.f0 = key ∧ withoutL key l = a ++ b := by
  intro l
  induction l with
  | nil => rintro ⟨x, hx, _⟩; cases hx
  | cons y l ih =>
    rintro ⟨x, hx, hk⟩
    by_cases e : y.f0 = key
    · exact ⟨[], y, l, rfl, e, by rw [withoutL, if_pos e]; rfl⟩
    · rcases List.mem_cons.1 hx with rfl | hx
      · exact absurd hk e
      · obtain ⟨a, z, b, h1, h2, h3⟩ := ih ⟨x, hx, hk⟩
        exact ⟨y :: a, z, b, by rw [h1]; rfl, h2, by rw [withoutL, if_neg e, h3]; rfl⟩
theorem without_none (key : ByteArray) : ∀ l : List S37, (¬ ∃ x ∈ l, x.f0 = key) → withoutL key l = l := by
  intro l
  induction l with
  | nil => intro _; rfl
  | cons y l ih =>
    intro h
    rw [withoutL, if_neg (fun e => h ⟨y, List.mem_cons_self, e⟩), ih (fun ⟨x, hx, hk⟩ => h ⟨x, List.mem_cons_of_mem _ hx, hk⟩)]
theorem no_place {H p : Bs} (hp : p ≠ []) (h : cntF H p (H.length + 1 - p.length) 0 = 0) : ∀ j, ¬ hitB H p j := by
  intro j hj
  have h1 := hitB_room hj hp
  have := cnt_pos H p (H.length + 1 - p.length) 0 j (Nat.zero_le _) (by omega) hj
  omega
theorem one_place {H p : Bs} (hp : p ≠ []) (h : cntF H p (H.length + 1 - p.length) 0 = 1) {i : Nat} (hi : hitB H p i) : ∀ j, hitB H p j → j = i := by
  intro j hj
  have h1 := hitB_room hj hp
  have h2 := hitB_room hi hp
  rcases Nat.lt_trichotomy i j with e | e | e
  · have := cnt_two H p (H.length + 1 - p.length) 0 i j (Nat.zero_le _) e (by omega) hi hj
    omega
  · exact e.symm
  · have := cnt_two H p (H.length + 1 - p.length) 0 j i (Nat.zero_le _) e (by omega) hj hi
    omega
theorem prs_app (a b : List S37) : prs (a ++ b) = prs a ++ prs b := List.map_append
theorem prs_cons (x : S37) (b : List S37) : prs (x :: b) = (bl x.f0, bl x.f1) :: prs b := rfl
theorem hdr_place (a b : List (Bs × Bs)) (x : Bs × Bs) : hitB (hdrB (a ++ x :: b)) x.1 (preB ++ bodyB a).length := by
  rw [hdr_split, List.append_assoc x.1]
  exact hitB_mid _ _ _
theorem SmallL_sub {l m : List S37} (h : SmallL l) (hn : m.length ≤ l.length) (hm : ∀ x ∈ m, x ∈ l) : SmallL m := ⟨Nat.le_trans hn h.1, fun x hx => h.2 x (hm x hx)⟩
theorem impl_Remove (H : Bs) (key : ByteArray) (hH : 0 < H.length) (hH2 : H.length ≤ 536870911) (hk : TokB (bl key)) (hk2 : key.size ≤ 40) (r : List Int) (h : removeL (I8 H) (bl key).length (I8 (bl key)) = some r) :
    impl_HeaderRemove.f (mkB H) key = some r := by
  have hkp : 0 < key.size := by rw [← bl_len]; exact List.length_pos_iff.2 hk.1
  have hs : (mkB H).size = H.length := by rw [← bl_len, bl_mkB]
  unfold impl_HeaderRemove.f impl_HeaderRemoveR.f
  rw [hs, if_pos hH2, bytesOf_mkB, if_pos ⟨hkp, by omega, by rw [List.length_map]; exact hH, by rw [List.length_map]; omega⟩, I8_bytesOf, ← bl_len key]
  exact h
theorem hdr_pos (l : List (Bs × Bs)) : 0 < (hdrB l).length := by
  simp only [hdrB, preB, List.length_append, List.length_cons, List.length_nil]
  omega
/-- What a removal comes to. -/
theorem remove_is (l : List S37) (key : ByteArray) (hs : SmallL l) (hF : ∀ x ∈ l, TokB (bl x.f0) ∧ ValB (bl x.f1)) (hk : TokB (bl key)) (hk2 : key.size ≤ 40) (b : Bool) (hb : b = true ↔ ∃ x ∈ l, x.f0 = key)
    (hc : cntF (hdrB (prs l)) (bl key) ((hdrB (prs l)).length + 1 - key.size) 0 = if b = true then 1 else 0) :
    impl_HeaderRemove.f (mkB (hdrB (prs l))) key = some (I8 (if b = true ∧ withoutL key l = [] then [] else hdrB (prs (withoutL key l)))) := by
  rw [← bl_len key] at hc
  have hsm := hdr_small l hs
  refine impl_Remove _ key (hdr_pos _) (by omega) hk hk2 _ ?_
  cases b with
  | false =>
    rw [without_none key l (fun h => Bool.false_ne_true (hb.2 h)), removeL_none (no_place hk.1 hc)]
    rfl
  | true =>
    obtain ⟨a, x, c, rfl, hx, hw⟩ := split_first key l (hb.1 rfl)
    have hxm := hF x (by simp)
    rw [hw]
    rw [prs_app, prs_cons] at hc ⊢
    rw [← hx] at hc hk ⊢
    have hr := removeL_some (prs a) (prs c) (bl x.f0, bl x.f1) hxm.1 hxm.2 (fun j hj => one_place hk.1 hc (hdr_place (prs a) (prs c) (bl x.f0, bl x.f1)) j hj)
    have e0 : (if prs a ++ prs c = [] then [] else hdrB (prs a ++ prs c)) = if true = true ∧ a ++ c = [] then [] else hdrB (prs (a ++ c)) := by
      rw [← prs_app]
      by_cases e : a ++ c = []
      · rw [if_pos (show prs (a ++ c) = [] by rw [e]; rfl), if_pos (show true = true ∧ a ++ c = [] from ⟨rfl, e⟩)]
      · rw [if_neg (show ¬ prs (a ++ c) = [] from fun h => e (List.map_eq_nil_iff.1 h)), if_neg (show ¬ (true = true ∧ a ++ c = []) from fun h => e h.2)]
    rw [hr, e0]

-- SENT: FnHeaderOthers: whatever the lines and the two keys (their number within the form's reach), the law returns true.
open _root_.Go.Proofs.Ytmfblbjklmgncaa.HeadW
theorem Ev_one {α : Type} {g : Nat → Option α} {a b : α} (h : Ev g a) (h' : Ev g b) : a = b := by
  obtain ⟨n, hn⟩ := h
  obtain ⟨m, hm⟩ := h'
  exact Option.some.inj ((hn (max n m) (Nat.le_max_left _ _)).symm.trans (hm (max n m) (Nat.le_max_right _ _)))
theorem same_loop (v : List Int) (hv : v.length ≤ 140737488351232) (d : Nat) : ∀ i : Nat, i + d = v.length → Ev (fun k => laws_sameBytes.l0 k v v (i : Int)) true := by
  induction d with
  | zero =>
    intro i h
    refine Ev.step (f := fun _ => some true) (fun k => ?_) (Ev.now _)
    simp only [laws_sameBytes.l0]
    rw [if_neg (by omega)]
  | succ d ih =>
    intro i h
    refine Ev.step (f := fun k => laws_sameBytes.l0 k v v ((i + 1 : Nat) : Int)) (fun k => ?_) (ih (i + 1) (by omega))
    simp only [laws_sameBytes.l0]
    rw [if_pos (by omega), if_pos (by omega), if_pos (by omega), if_pos trivial, wrap_nat i (by omega)]
theorem same_ev (v : List Int) (hv : v.length ≤ 140737488351232) : Ev (fun k => laws_sameBytes.f k v v) true := by
  unfold laws_sameBytes.f
  exact Ev.congr (fun k => if_pos rfl) (same_loop v hv v.length 0 (by omega))
theorem impl_GetR (H : Bs) (key : ByteArray) (hH : 0 < H.length) (hH2 : H.length ≤ 536870911) (hk : TokB (bl key)) (hk2 : key.size ≤ 40) (o : Option (List Int)) (h : getL (I8 H) (bl key).length (I8 (bl key)) = some o) :
    impl_HeaderGetR.f (I8 H) key = some (o.getD [], o.isSome) := by
  have hkp : 0 < key.size := by rw [← bl_len]; exact List.length_pos_iff.2 hk.1
  unfold impl_HeaderGetR.f
  rw [if_pos ⟨hkp, by omega, by rw [I8_len]; exact hH, by rw [I8_len]; omega⟩, I8_bytesOf, ← bl_len key, h]
  rfl
/-- A place in what is left is one in the whole. -/
theorem cut_map {P mid r p : Bs} (hP : ∃ q, P = q ++ [13, 10]) (hp : TokB p) {j : Nat} (hj : hitB (P ++ r) p j) :
    (j + p.length ≤ P.length ∧ hitB (P ++ (mid ++ r)) p j) ∨ (P.length ≤ j ∧ hitB (P ++ (mid ++ r)) p (j + mid.length)) := by
  obtain ⟨q, rfl⟩ := hP
  rcases no_straddle hp hj with h | h
  · exact .inl ⟨h, hitB_left (hitB_left' hj h) h⟩
  · refine .inr ⟨h, ?_⟩
    obtain ⟨m, rfl⟩ := Nat.exists_eq_add_of_le h
    have h3 := hitB_right.1 hj
    have := (hitB_right (a := q ++ [13, 10]) (c := mid ++ r) (p := p) (k := mid.length + m)).2 (hitB_right.2 h3)
    have e : (q ++ [13, 10]).length + m + mid.length = (q ++ [13, 10]).length + (mid.length + m) := by omega
    rw [e]
    exact this
theorem cut_is (a c : List (Bs × Bs)) : hdrB (a ++ c) = (preB ++ bodyB a) ++ (bodyB c ++ [13, 10]) := by
  unfold hdrB
  rw [bodyB_append]
  simp
theorem split_mid (a c : List (Bs × Bs)) (x : Bs × Bs) : hdrB (a ++ x :: c) = (preB ++ bodyB a) ++ (lineB x ++ (bodyB c ++ [13, 10])) := hdr_split a c x
theorem get_there (l : List S37) (y : S37) (hy : y ∈ l) (hF : ∀ x ∈ l, TokB (bl x.f0) ∧ ValB (bl x.f1)) (hc : cntF (hdrB (prs l)) (bl y.f0) ((hdrB (prs l)).length + 1 - (bl y.f0).length) 0 = 1) :
    getL (I8 (hdrB (prs l))) (bl y.f0).length (I8 (bl y.f0)) = some (some (I8 (bl y.f1))) := by
  have hym := hF y hy
  obtain ⟨s, t, rfl⟩ := List.append_of_mem hy
  rw [prs_app, prs_cons] at hc ⊢
  refine getL_some (prs s) (prs t) (bl y.f0, bl y.f1) hym.1 hym.2 (fun j hj h => ?_)
  have := one_place hym.1.1 hc (hdr_place (prs s) (prs t) (bl y.f0, bl y.f1)) j h
  omega
/-- What stands in the whole once stands in what is left at its first place. -/
theorem get_left (a c : List S37) (x y : S37) (hy : y ∈ a ++ c) (hF : ∀ z ∈ a ++ x :: c, TokB (bl z.f0) ∧ ValB (bl z.f1)) (hc : cntF (hdrB (prs (a ++ x :: c))) (bl y.f0) ((hdrB (prs (a ++ x :: c))).length + 1 - (bl y.f0).length) 0 = 1) :
    getL (I8 (hdrB (prs (a ++ c)))) (bl y.f0).length (I8 (bl y.f0)) = some (some (I8 (bl y.f1))) := by
  have hyl : y ∈ a ++ x :: c := by
    rcases List.mem_append.1 hy with h | h
    · exact List.mem_append_left _ h
    · exact List.mem_append_right _ (List.mem_cons_of_mem _ h)
  have hym := hF y hyl
  have hyp : 0 < (bl y.f0).length := List.length_pos_iff.2 hym.1.1
  -- one place in the whole
  have h1 : ∀ j m, hitB (hdrB (prs (a ++ x :: c))) (bl y.f0) j → hitB (hdrB (prs (a ++ x :: c))) (bl y.f0) m → j = m := fun j m hj hm => one_place hym.1.1 hc hm j hj
  obtain ⟨s, t, hst⟩ := List.append_of_mem hy
  have hpl := hdr_place (prs s) (prs t) (bl y.f0, bl y.f1)
  rw [hst, prs_app, prs_cons]
  refine getL_some (prs s) (prs t) (bl y.f0, bl y.f1) hym.1 hym.2 (fun j hj h => ?_)
  simp only at hpl h
  generalize (preB ++ bodyB (prs s)).length = P at hpl hj
  rw [← prs_cons, ← prs_app, ← hst, prs_app, cut_is] at hpl h
  rw [prs_app, prs_cons, split_mid] at h1
  obtain ⟨q, hq⟩ := pre_end (prs a)
  rcases cut_map (mid := lineB (bl x.f0, bl x.f1)) ⟨q, hq⟩ hym.1 hpl with ⟨e1, g1⟩ | ⟨e1, g1⟩
  · rcases cut_map (mid := lineB (bl x.f0, bl x.f1)) ⟨q, hq⟩ hym.1 h with ⟨e2, g2⟩ | ⟨e2, g2⟩
    · have := h1 _ _ g1 g2; omega
    · omega
  · rcases cut_map (mid := lineB (bl x.f0, bl x.f1)) ⟨q, hq⟩ hym.1 h with ⟨e2, g2⟩ | ⟨e2, g2⟩
    · have := h1 _ _ g1 g2; omega
    · have := h1 _ _ g1 g2; omega
theorem none_left (a c : List S37) (x : S37) (p : Bs) (hp : TokB p) (h : ∀ j, ¬ hitB (hdrB (prs (a ++ x :: c))) p j) : ∀ j, ¬ hitB (hdrB (prs (a ++ c))) p j := by
  intro j hj
  obtain ⟨q, hq⟩ := pre_end (prs a)
  rw [prs_app, cut_is] at hj
  rw [prs_app, prs_cons, split_mid] at h
  rcases cut_map (mid := lineB (bl x.f0, bl x.f1)) ⟨q, hq⟩ hp hj with ⟨_, g⟩ | ⟨_, g⟩
  · exact h _ g
  · exact h _ g
theorem gone (a c : List S37) (x : S37) (hx : TokB (bl x.f0)) (hc : cntF (hdrB (prs (a ++ x :: c))) (bl x.f0) ((hdrB (prs (a ++ x :: c))).length + 1 - (bl x.f0).length) 0 = 1) : ∀ j, ¬ hitB (hdrB (prs (a ++ c))) (bl x.f0) j := by
  intro j hj
  obtain ⟨q, hq⟩ := pre_end (prs a)
  have hpl := hdr_place (prs a) (prs c) (bl x.f0, bl x.f1)
  rw [← prs_cons, ← prs_app] at hpl
  have h1 := one_place hx.1 hc hpl
  rw [prs_app, cut_is] at hj
  rw [prs_app, prs_cons, split_mid] at h1
  have hxp : 0 < (bl x.f0).length := List.length_pos_iff.2 hx.1
  have hlp : 0 < (lineB (bl x.f0, bl x.f1)).length := by simp [lineB]; omega
  rcases cut_map (mid := lineB (bl x.f0, bl x.f1)) ⟨q, hq⟩ hx hj with ⟨e, g⟩ | ⟨e, g⟩
  · have := h1 _ g; omega
  · have := h1 _ g; omega
/-- The values of the main way. -/
theorem main_ev (l : List S37) (K O : ByteArray) (hs : SmallL l) (hF : ∀ x ∈ l, TokB (bl x.f0) ∧ ValB (bl x.f1)) (hKO : K ≠ O)
    (hK : TokB (bl K)) (hK2 : K.size ≤ 40) (b : Bool) (hb : b = true ↔ ∃ x ∈ l, x.f0 = K) (hc : cntF (hdrB (prs l)) (bl K) ((hdrB (prs l)).length + 1 - K.size) 0 = if b = true then 1 else 0)
    (hO : TokB (bl O)) (hO2 : O.size ≤ 40) (b2 : Bool) (hb2 : b2 = true ↔ ∃ x ∈ l, x.f0 = O) (hc2 : cntF (hdrB (prs l)) (bl O) ((hdrB (prs l)).length + 1 - O.size) 0 = if b2 = true then 1 else 0) :
    Ev (fun k => laws_FnHeaderOthers.h k l K O) true := by
  have hsm := hdr_small l hs
  have hR := remove_is l K hs hF hK hK2 b hb hc
  have hin : 0 < (hdrB (prs l)).length := hdr_pos _
  rw [← bl_len K] at hc
  rw [← bl_len O] at hc2
  -- the other one's value
  obtain ⟨v, hv, hvl⟩ : ∃ v : List Int, (∃ o : Option (List Int), getL (I8 (hdrB (prs l))) (bl O).length (I8 (bl O)) = some o ∧ o.isSome = b2 ∧ o.getD [] = v ∧
      (¬ (b = true ∧ withoutL K l = []) → getL (I8 (hdrB (prs (withoutL K l)))) (bl O).length (I8 (bl O)) = some o)) ∧ v.length ≤ 140737488351232 := by
    cases b2 with
    | false =>
      have h0 := no_place hO.1 hc2
      refine ⟨[], ⟨none, getL_none h0, rfl, rfl, fun _ => ?_⟩, Nat.zero_le _⟩
      cases b with
      | false => rw [without_none K l (fun h => Bool.false_ne_true (hb.2 h))]; exact getL_none h0
      | true =>
        obtain ⟨a, x, c, rfl, hx, hw⟩ := split_first K l (hb.1 rfl)
        rw [hw]
        exact getL_none (none_left a c x _ hO h0)
    | true =>
      obtain ⟨y, hy, rfl⟩ := hb2.1 rfl
      have hg := get_there l y hy hF hc2
      have hyl : (I8 (bl y.f1)).length ≤ 140737488351232 := by
        rw [I8_len, bl_len]
        have := (hs.2 y hy).2
        omega
      refine ⟨I8 (bl y.f1), ⟨_, hg, rfl, rfl, fun _ => ?_⟩, hyl⟩
      cases b with
      | false => rw [without_none K l (fun h => Bool.false_ne_true (hb.2 h))]; exact hg
      | true =>
        obtain ⟨a, x, c, rfl, hx, hw⟩ := split_first K l (hb.1 rfl)
        rw [hw]
        refine get_left a c x y ?_ hF hc2
        rcases List.mem_append.1 hy with h | h
        · exact List.mem_append_left _ h
        · rcases List.mem_cons.1 h with rfl | h
          · exact absurd hx.symm hKO
          · exact List.mem_append_right _ h
  obtain ⟨o, ho1, ho2, ho3, ho4⟩ := hv
  have hG := impl_Get (hdrB (prs l)) O hin (by omega) hO hO2 o ho1
  rw [ho2, ho3] at hG
  unfold laws_FnHeaderOthers.h
  refine Ev.bind (Header_ev l hs) ?_
  simp only [hG, hR, Option.bind_some]
  by_cases e : b = true ∧ withoutL K l = []
  · -- nothing is left
    have hb2f : b2 = false := by
      cases b2 with
      | false => rfl
      | true =>
        exfalso
        obtain ⟨y, hy, hyO⟩ := hb2.1 rfl
        obtain ⟨a, x, c, rfl, hx, hw⟩ := split_first K l (hb.1 e.1)
        rw [hw] at e
        obtain ⟨rfl, rfl⟩ := List.append_eq_nil_iff.1 e.2
        simp only [List.nil_append, List.mem_singleton] at hy
        exact hKO (by rw [← hx, ← hyO, hy])
    rw [if_pos e]
    refine Ev.congr (f := fun k => laws_awakeHeader.f k) (fun k => ?_) awake_ev
    rw [if_pos (show (I8 []).length = 0 from rfl), if_pos hb2f]
  · rw [if_neg e]
    have hmp : 0 < (hdrB (prs (withoutL K l))).length := hdr_pos _
    have hml : (hdrB (prs (withoutL K l))).length ≤ 1000 := by
      refine hdr_small _ (SmallL_sub hs ?_ ?_)
      · by_cases e2 : ∃ x ∈ l, x.f0 = K
        · obtain ⟨a, x, c, h1, h2, h3⟩ := split_first K l e2
          rw [h3, h1]; simp
        · rw [without_none K l e2]; exact Nat.le_refl _
      · by_cases e2 : ∃ x ∈ l, x.f0 = K
        · obtain ⟨a, x, c, h1, h2, h3⟩ := split_first K l e2
          rw [h3, h1]
          intro y hy
          rcases List.mem_append.1 hy with hy | hy
          · exact List.mem_append_left _ hy
          · exact List.mem_append_right _ (List.mem_cons_of_mem _ hy)
        · rw [without_none K l e2]; exact fun y hy => hy
    have hG2 := impl_GetR (hdrB (prs (withoutL K l))) O hmp (by omega) hO hO2 o (ho4 e)
    rw [ho2, ho3] at hG2
    have hgone : ∀ j, ¬ hitB (hdrB (prs (withoutL K l))) (bl K) j := by
      cases b with
      | false => rw [without_none K l (fun h => Bool.false_ne_true (hb.2 h))]; exact no_place hK.1 hc
      | true =>
        obtain ⟨a, x, c, rfl, hx, hw⟩ := split_first K l (hb.1 rfl)
        rw [hw]
        rw [← hx] at hc hK ⊢
        exact gone a c x hK hc
    have hG3 := impl_GetR (hdrB (prs (withoutL K l))) K hmp (by omega) hK hK2 none (getL_none hgone)
    refine Ev.congr (f := fun k => (laws_sameBytes.f k v v).bind fun s => if s = true then laws_awakeHeader.f k else none) (fun k => ?_) ?_
    · rw [if_neg (by rw [I8_len]; omega), hG2, Option.bind_some, hG3, Option.bind_some, if_pos ⟨rfl, rfl⟩]
    · exact Ev.bind (same_ev v hvl) awake_ev
theorem FnHeaderOthers : laws_FnHeaderOthers.Pure := by
  intro l K O hm hok hK0 hO0
  apply Ev.rounds
  obtain ⟨z, hz, hz2⟩ := zf_ev l
  unfold laws_FnHeaderOthers.f
  refine Ev.bind hz ?_
  cases z with
  | false => exact Ev.now _
  | true =>
    obtain ⟨hn, hx⟩ := hz2 rfl
    have hl : OkL l := ⟨by omega, fun x h => ⟨Nat.le_trans (hx x h).1 (by decide), Nat.le_trans (hx x h).2 (by decide)⟩⟩
    by_cases h1 : 2147483647 < K.size
    · exact Ev.congr (f := fun _ => some true) (fun k => by rw [if_neg (by decide), if_pos h1]) (Ev.now _)
    by_cases h2 : 2147483647 < O.size
    · exact Ev.congr (f := fun _ => some true) (fun k => by rw [if_neg (by decide), if_neg h1, if_pos h2]) (Ev.now _)
    refine Ev.congr (f := fun k => laws_FnHeaderOthers.g k l K O) (fun k => by rw [if_neg (by decide), if_neg h1, if_neg h2]) ?_
    unfold laws_FnHeaderOthers.g
    obtain ⟨h, hh, hh2⟩ := headed_ev l hl
    refine Ev.bind hh ?_
    cases h with
    | false => exact awake_ev
    | true =>
    obtain ⟨hs, hF⟩ := hh2 rfl
    obtain ⟨q, hq, hq2⟩ := known_ev l K hl hs hK0
    refine Ev.bind (a := q) hq ?_
    cases q with
    | false => exact awake_ev
    | true =>
    obtain ⟨hk1, hk2, b, hb, hc⟩ := hq2 rfl
    obtain ⟨q, hq, hq2⟩ := known_ev l O hl hs hO0
    refine Ev.bind (a := q) hq ?_
    cases q with
    | false => exact awake_ev
    | true =>
    obtain ⟨ho1, ho2, b2, hb2, hc2⟩ := hq2 rfl
    obtain ⟨s1, hl1⟩ := lower_ev K hK0
    obtain ⟨s2, hl2⟩ := lower_ev O hO0
    refine Ev.bind (a := s1) hl1 (Ev.bind (a := s2) hl2 ?_)
    by_cases he : s1.toList = s2.toList
    · exact Ev.congr (f := fun k => laws_awakeHeader.f k) (fun k => if_pos he) awake_ev
    · refine Ev.congr (f := fun k => laws_FnHeaderOthers.h k l K O) (fun k => if_neg he) ?_
      refine main_ev l K O hs hF (fun e => he ?_) hk1 hk2 b hb hc ho1 ho2 b2 hb2 hc2
      subst e
      rw [Ev_one hl1 hl2]

end Go.Proofs.Ytmfblbjklmgncaa.Pure
