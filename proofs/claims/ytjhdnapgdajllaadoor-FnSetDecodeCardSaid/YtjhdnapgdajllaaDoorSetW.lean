/- WALKS: a set of numbers: the thin package's functions over it. -/
import Derived.Test.YtjhdnapgdajllaaDoorProg
import Derived.Below
import Derived.Deep.Draws
import Derived.Deep.AppendLies
import Derived.Maps.AppendAt
import Derived.OwnWalk
import Derived.Laws.BytesArg
import Derived.Laws.MakeOwn
import Derived.Laws.OwnMore
import Derived.Deep.OwnRows
import Derived.Tactics
import Derived.Lib.ConvBytes
import Derived.Laws.Slices
import Derived.WalkKit
import Derived.KernelRfl
import Derived.RowKit3
import Derived.Deep.LoopGhost
import Derived.Deep.QuietTactic
import Derived.BigQuiet
import Derived.WideLaws
import Derived.Deep.DeepCutAuto
import Derived.Deep.CutBlock
import Derived.Deep.RegionHeld3
import Derived.Laws.Rows
import Derived.Lib.AppendStr
import Derived.ArgAppend
import Derived.Laws.IdiomCopy
import Derived.OrdersHeld
import Derived.Laws.BitsLemmas
import Derived.RowKit
import Derived.Test.YtjhdnapgdajllaaDoorWWords
import Derived.Test.YtjhdnapgdajllaaDoorWLast
import Derived.Test.YtjhdnapgdajllaaDoorWTab
import Derived.Test.YtjhdnapgdajllaaDoorWFour
import Derived.Test.YtjhdnapgdajllaaDoorWQPut
import Derived.Test.YtjhdnapgdajllaaDoorWApart
import Derived.Test.YtjhdnapgdajllaaDoorWArr
import Derived.Test.YtjhdnapgdajllaaDoorWZeros
import Derived.Test.YtjhdnapgdajllaaDoorWFoot
import Derived.Test.YtjhdnapgdajllaaDoorWKept
import Derived.Test.YtjhdnapgdajllaaDoorWShare
import Derived.Test.YtjhdnapgdajllaaDoorWN
import Derived.Test.YtjhdnapgdajllaaDoorWFootNe
import Derived.Test.YtjhdnapgdajllaaDoorWAt
import Derived.Test.YtjhdnapgdajllaaDoorWEqStruct
import Derived.Test.YtjhdnapgdajllaaDoorWRepsOne
import Derived.Test.YtjhdnapgdajllaaDoorWInv
import Derived.Test.YtjhdnapgdajllaaDoorWInvWords
import Derived.Test.YtjhdnapgdajllaaDoorWGuard
import Derived.Test.YtjhdnapgdajllaaDoorWNEv
import Derived.Test.YtjhdnapgdajllaaDoorWMore
import Derived.Test.YtjhdnapgdajllaaDoorSetWB
import Derived.Test.YtjhdnapgdajllaaDoorRoad
import Derived.Test.YtjhdnapgdajllaaDoorRunes
import Derived.Lib.EndianBits
import Derived.Stop.LaidErr
import Derived.RegionTactic
import Derived.StillTailTactics
import Derived.Laws.CopyRow
import Derived.Laws.CopyOwn
import Derived.Shelf.Spec.TrailingZeros
namespace Go.Proofs.YtjhdnapgdajllaaDoor.SetW
open Go.RowKit Go.Proofs.YtjhdnapgdajllaaDoorW.PrintWords Go.Proofs.YtjhdnapgdajllaaDoorW.PrintLast Go.Proofs.YtjhdnapgdajllaaDoorW.PrintMore
attribute [local go_sem] max2_int min2_int max_two min_two max_three min_three max_four min_four   -- for this text's walks alone
set_option linter.unusedVariables false
set_option linter.unusedSimpArgs false



/-! ### the shape of a tree: the same wherever its nodes lie -/
def er : Tr → Tr
  | .nil => .nil
  | .node _ b bs l r h => .node 0 b bs (er l) (er r) h
theorem ht_nd (g b : Nat) (bs : List Nat) (l r : Tr) (h : Int) : (Tr.node g b bs l r h).ht = h := rfl
def mx (a b : Int) : Int := if b < a then a else b
theorem mH_mx (g b : Nat) (bs : List Nat) (l r : Tr) (h : Int) : mH (.node g b bs l r h) = mx l.ht r.ht := rfl
theorem er_ht : ∀ t : Tr, (er t).ht = t.ht
  | .nil => rfl
  | .node _ _ _ _ _ _ => rfl
theorem er_sz : ∀ t : Tr, (er t).sz = t.sz
  | .nil => rfl
  | .node _ _ _ l r _ => by rw [er, Tr.sz, Tr.sz, er_sz l, er_sz r]
theorem er_nums : ∀ t : Tr, (er t).nums = t.nums
  | .nil => rfl
  | .node _ _ _ l r _ => by rw [er, Tr.nums, Tr.nums, er_nums l, er_nums r]
theorem er_mH (g b : Nat) (bs : List Nat) (l r : Tr) (h : Int) (g' : Nat) (h' : Int) : mH (.node g b bs (er l) (er r) h) = mH (.node g' b bs l r h') := by
  simp only [mH_mx, er_ht]
theorem er_bF : ∀ t : Tr, bF (er t) = bF t
  | .nil => rfl
  | .node _ _ _ l r _ => by rw [er, bF, bF, er_ht, er_ht]
theorem er_rotLt : ∀ t : Tr, er (rotLt t) = rotLt (er t)
  | .nil => rfl
  | .node _ _ _ _ .nil _ => rfl
  | .node g b bs o (.node g2 b2 bs2 i p k2) h => by simp only [rotLt, er, rotLT, mH_mx, er_ht, ht_nd]
theorem er_rotRt : ∀ t : Tr, er (rotRt t) = rotRt (er t)
  | .nil => rfl
  | .node _ _ _ .nil _ _ => rfl
  | .node g b bs (.node g2 b2 bs2 p i k2) o h => by simp only [rotRt, er, rotRT, mH_mx, er_ht, ht_nd]
theorem er_ite {c : Prop} [Decidable c] (a b : Tr) : er (if c then a else b) = if c then er a else er b := by split <;> rfl
theorem er_balT (g b : Nat) (bs : List Nat) (l r : Tr) : er (balT g b bs l r) = balT 0 b bs (er l) (er r) := by
  simp only [balT, er_ite, er_rotRt, er_rotLt, er, er_ht, er_bF, er_mH 0 b bs l r 0 g 0]
theorem er_insT (n s : Nat) : ∀ t : Tr, er (insT n s t) = insT 0 s (er t)
  | .nil => rfl
  | .node g b bs l r h => by simp only [insT, er_ite, er_balT, er_insT n s l, er_insT n s r, er]
theorem er_setT (s : Nat) : ∀ t : Tr, er (setT s t) = setT s (er t)
  | .nil => rfl
  | .node g b bs l r h => by simp only [setT, er_ite, er_setT s l, er_setT s r, er]
theorem er_ndT (s : Nat) : ∀ t : Tr, ndT s (er t) = ndT s t
  | .nil => rfl
  | .node g b bs l r h => by simp only [ndT, er, er_ndT s l, er_ndT s r]
theorem er_inT (s : Nat) : ∀ t : Tr, inT s (er t) = inT s t
  | .nil => rfl
  | .node g b bs l r h => by simp only [inT, er, er_inT s l, er_inT s r]
theorem er_addT (n s : Nat) (t : Tr) : er (addT n s t) = addT 0 s (er t) := by simp only [addT, er_ite, er_setT, er_insT, er_ndT]
theorem er_prevT (nn : Tr) : ∀ t : Tr, er (prevT nn t) = prevT (er nn) (er t)
  | .nil => rfl
  | .node g b bs l r h => by simp only [prevT, er_balT, er_prevT nn l, er]
theorem er_joinT : ∀ l r : Tr, er (joinT l r) = joinT (er l) (er r)
  | .nil, _ => rfl
  | .node _ _ _ _ _ _, .nil => rfl
  | .node _ _ _ _ _ _, .node _ _ _ _ _ _ => by simp only [joinT, er_prevT, er]
theorem er_reT : ∀ t : Tr, er (reT t) = reT (er t)
  | .nil => rfl
  | .node _ _ _ _ _ _ => by simp only [reT, er_balT, er]
theorem er_delN (s : Nat) : ∀ t : Tr, delN s (er t) = delN s t
  | .nil => rfl
  | .node g b bs l r h => by simp only [delN, er, er_delN s l, er_delN s r]
theorem er_delT (s : Nat) : ∀ t : Tr, er (delT s t) = delT s (er t)
  | .nil => rfl
  | .node g b bs l r h => by simp only [delT, er_ite, er_balT, er_delT s l, er_delT s r, er_delN, er_reT, er_joinT, er]
theorem er_subT (s : Nat) (z : Int) (t : Tr) : er (subT s z t) = subT s z (er t) := by
  simp only [subT, er_ite, er_delT, er_inT]
  rfl
def stepT (u : Tr) (a : Int × Int) : Tr := if a.1 = 0 then addT 0 a.2.toNat u else subT a.2.toNat u.nums.length u
def actsT (u : Tr) (acts : List (Int × Int)) : Tr := acts.foldl stepT u
/-! ### balance -/
def Tr.bal : Tr → Prop
  | .nil => True
  | .node _ _ _ l r _ => (l.ht - r.ht ≤ 1 ∧ r.ht - l.ht ≤ 1) ∧ l.bal ∧ r.bal
theorem mx_spec (a b : Int) : (a ≤ mx a b ∧ b ≤ mx a b) ∧ (mx a b = a ∨ mx a b = b) := by unfold mx; split <;> omega
theorem ht_nonneg (t : Tr) (h : t.good) : 0 ≤ t.ht := (ht_sz t h).1
theorem ht_pos {t : Tr} (h : t.good) (hp : 0 < t.ht) : ∃ g b bs l r k, t = .node g b bs l r k ∧ k = mx l.ht r.ht + 1 ∧ l.good ∧ r.good := by
  cases t with
  | nil => exact absurd hp (by decide)
  | node g b bs l r k => exact ⟨g, b, bs, l, r, k, rfl, h.1, h.2.1, h.2.2⟩
theorem balT_bal (g b : Nat) (bs : List Nat) (l r : Tr) (hl : l.good) (hr : r.good) (bl : l.bal) (br : r.bal) (h1 : l.ht - r.ht ≤ 2) (h2 : r.ht - l.ht ≤ 2) :
    (balT g b bs l r).bal ∧ (balT g b bs l r).ht ≤ mx l.ht r.ht + 1 ∧ mx l.ht r.ht ≤ (balT g b bs l r).ht ∧ (l.ht - r.ht ≤ 1 → r.ht - l.ht ≤ 1 → (balT g b bs l r).ht = mx l.ht r.ht + 1) := by
  have nl := ht_nonneg l hl
  have nr := ht_nonneg r hr
  unfold balT
  simp only
  by_cases c1 : 1 < l.ht - r.ht
  · rw [if_pos c1]
    obtain ⟨g1, b1, bs1, l1, r1, k1, rfl, e1, gl1, gr1⟩ := ht_pos hl (by omega)
    obtain ⟨⟨d1, d2⟩, bl1, br1⟩ := bl
    have nl1 := ht_nonneg l1 gl1
    have nr1 := ht_nonneg r1 gr1
    rw [ht_nd] at c1 h1 h2 nl ⊢
    have s1 := mx_spec l1.ht r1.ht
    have s2 := mx_spec k1 r.ht
    by_cases c2 : bF (.node g1 b1 bs1 l1 r1 k1) < 0
    · rw [if_pos c2]
      rw [bF] at c2
      obtain ⟨g2, b2, bs2, l2, r2, k2, rfl, e2, gl2, gr2⟩ := ht_pos gr1 (by omega)
      obtain ⟨⟨d3, d4⟩, bl2, br2⟩ := br1
      have nl2 := ht_nonneg l2 gl2
      have nr2 := ht_nonneg r2 gr2
      rw [ht_nd] at c2 d1 d2 nr1 e1 s1
      have s3 := mx_spec l2.ht r2.ht
      have s4 := mx_spec l1.ht l2.ht
      have s5 := mx_spec r2.ht r.ht
      have s6 := mx_spec (mx l1.ht l2.ht + 1) (mx r2.ht r.ht + 1)
      simp only [rotLt, rotLT, rotRt, rotRT, Tr.bal, ht_nd, mH_mx]
      refine ⟨⟨⟨by omega, by omega⟩, ⟨⟨by omega, by omega⟩, bl1, bl2⟩, ⟨⟨by omega, by omega⟩, br2, br⟩⟩, by omega, by omega, by omega⟩
    · rw [if_neg c2]
      rw [bF] at c2
      have s4 := mx_spec r1.ht r.ht
      have s5 := mx_spec l1.ht (mx r1.ht r.ht + 1)
      simp only [rotRt, rotRT, Tr.bal, ht_nd, mH_mx]
      refine ⟨⟨⟨by omega, by omega⟩, bl1, ⟨⟨by omega, by omega⟩, br1, br⟩⟩, by omega, by omega, by omega⟩
  · rw [if_neg c1]
    by_cases c3 : l.ht - r.ht < -1
    · rw [if_pos c3]
      obtain ⟨g1, b1, bs1, l1, r1, k1, rfl, e1, gl1, gr1⟩ := ht_pos hr (by omega)
      obtain ⟨⟨d1, d2⟩, bl1, br1⟩ := br
      have nl1 := ht_nonneg l1 gl1
      have nr1 := ht_nonneg r1 gr1
      rw [ht_nd] at c1 c3 h1 h2 nr ⊢
      have s1 := mx_spec l1.ht r1.ht
      have s2 := mx_spec l.ht k1
      by_cases c2 : 0 < bF (.node g1 b1 bs1 l1 r1 k1)
      · rw [if_pos c2]
        rw [bF] at c2
        obtain ⟨g2, b2, bs2, l2, r2, k2, rfl, e2, gl2, gr2⟩ := ht_pos gl1 (by omega)
        obtain ⟨⟨d3, d4⟩, bl2, br2⟩ := bl1
        have nl2 := ht_nonneg l2 gl2
        have nr2 := ht_nonneg r2 gr2
        rw [ht_nd] at c2 d1 d2 nl1 e1 s1
        have s3 := mx_spec l2.ht r2.ht
        have s4 := mx_spec r2.ht r1.ht
        have s5 := mx_spec l.ht l2.ht
        have s6 := mx_spec (mx l.ht l2.ht + 1) (mx r2.ht r1.ht + 1)
        simp only [rotLt, rotLT, rotRt, rotRT, Tr.bal, ht_nd, mH_mx]
        refine ⟨⟨⟨by omega, by omega⟩, ⟨⟨by omega, by omega⟩, bl, bl2⟩, ⟨⟨by omega, by omega⟩, br2, br1⟩⟩, by omega, by omega, by omega⟩
      · rw [if_neg c2]
        rw [bF] at c2
        have s4 := mx_spec l.ht l1.ht
        have s5 := mx_spec (mx l.ht l1.ht + 1) r1.ht
        simp only [rotLt, rotLT, Tr.bal, ht_nd, mH_mx]
        refine ⟨⟨⟨by omega, by omega⟩, ⟨⟨by omega, by omega⟩, bl, bl1⟩, br1⟩, by omega, by omega, by omega⟩
    · rw [if_neg c3]
      refine ⟨⟨⟨by omega, by omega⟩, bl, br⟩, ?_, ?_, fun _ _ => ?_⟩
      · show mH _ + 1 ≤ _; rw [mH_mx]; exact Int.le_refl _
      · show _ ≤ mH _ + 1; rw [mH_mx]; omega
      · show mH _ + 1 = _; rw [mH_mx]
theorem insT_bal (n s : Nat) : ∀ t : Tr, t.good → t.bal → (insT n s t).bal ∧ t.ht ≤ (insT n s t).ht ∧ (insT n s t).ht ≤ t.ht + 1
  | .nil, _, _ => ⟨⟨⟨(by decide : (0 : Int) ≤ 1), (by decide : (0 : Int) ≤ 1)⟩, trivial, trivial⟩, (by decide : (0 : Int) ≤ 1), (by decide : (1 : Int) ≤ 1)⟩
  | .node g b bs l r h, ⟨e, gl, gr⟩, ⟨⟨d1, d2⟩, bl, br⟩ => by
    rw [mH_mx] at e
    subst e
    rw [insT]
    have s0 := mx_spec l.ht r.ht
    split
    · obtain ⟨i1, i2, i3⟩ := insT_bal n s l gl bl
      obtain ⟨j1, j2, j3, j4⟩ := balT_bal g b bs (insT n s l) r (insT_good n s l gl) gr i1 br (by omega) (by omega)
      have s1 := mx_spec (insT n s l).ht r.ht
      refine ⟨j1, ?_⟩
      rw [ht_nd]
      by_cases c : (insT n s l).ht - r.ht ≤ 1
      · rw [j4 c (by omega)]; omega
      · omega
    · split
      · obtain ⟨i1, i2, i3⟩ := insT_bal n s r gr br
        obtain ⟨j1, j2, j3, j4⟩ := balT_bal g b bs l (insT n s r) gl (insT_good n s r gr) bl i1 (by omega) (by omega)
        have s1 := mx_spec l.ht (insT n s r).ht
        refine ⟨j1, ?_⟩
        rw [ht_nd]
        by_cases c : (insT n s r).ht - l.ht ≤ 1
        · rw [j4 (by omega) c]; omega
        · omega
      · obtain ⟨j1, j2, j3, j4⟩ := balT_bal g b (if hasB bs (s - b) = true then bs else putB bs (s - b)) l r gl gr bl br (by omega) (by omega)
        refine ⟨j1, ?_⟩
        rw [j4 d1 d2, ht_nd]
        omega
theorem setT_bal (s : Nat) : ∀ t : Tr, t.bal → (setT s t).bal
  | .nil, _ => trivial
  | .node g b bs l r h, ⟨⟨d1, d2⟩, bl, br⟩ => by
    rw [setT]
    split
    · exact ⟨⟨by rw [setT_ht]; exact d1, by rw [setT_ht]; exact d2⟩, setT_bal s l bl, br⟩
    · split
      · exact ⟨⟨by rw [setT_ht]; exact d1, by rw [setT_ht]; exact d2⟩, bl, setT_bal s r br⟩
      · exact ⟨⟨d1, d2⟩, bl, br⟩
theorem addT_bal (n s : Nat) (t : Tr) (hg : t.good) (hb : t.bal) : (addT n s t).bal := by
  unfold addT
  split
  · exact setT_bal s t hb
  · exact (insT_bal n s t hg hb).1
/-- How many nodes a balanced tree of a height has at least. -/
def leastN : Nat → Nat
  | 0 => 0
  | 1 => 1
  | n + 2 => leastN n + leastN (n + 1) + 1
theorem leastN_step : ∀ n : Nat, leastN n < leastN (n + 1)
  | 0 => by decide
  | n + 1 => by rw [show leastN (n + 1 + 1) = leastN n + leastN (n + 1) + 1 from rfl]; omega
theorem leastN_mono {a b : Nat} (h : a ≤ b) : leastN a ≤ leastN b := by
  induction h with
  | refl => exact Nat.le_refl _
  | step _ ih => exact Nat.le_trans ih (Nat.le_of_lt (leastN_step _))
theorem least_sz : ∀ t : Tr, t.good → t.bal → leastN t.ht.toNat ≤ t.sz
  | .nil, _, _ => Nat.le_refl _
  | .node g b bs l r h, ⟨e, gl, gr⟩, ⟨⟨d1, d2⟩, bl, br⟩ => by
    rw [mH_mx] at e
    have nl := ht_nonneg l gl
    have nr := ht_nonneg r gr
    have il := least_sz l gl bl
    have ir := least_sz r gr br
    rw [Tr.sz, ht_nd, e]
    obtain ⟨a, ha⟩ : ∃ a : Nat, l.ht = (a : Int) := ⟨l.ht.toNat, by omega⟩
    obtain ⟨c, hc⟩ : ∃ c : Nat, r.ht = (c : Int) := ⟨r.ht.toNat, by omega⟩
    rw [ha] at il d1 d2 ⊢
    rw [hc] at ir d1 d2 ⊢
    rw [Int.toNat_natCast] at il ir
    unfold mx
    split
    · have e2 : ((a : Int) + 1).toNat = a + 1 := by omega
      have e3 : a = c + 1 := by omega
      rw [e2, e3, show leastN (c + 1 + 1) = leastN c + leastN (c + 1) + 1 from rfl]
      rw [e3] at il
      omega
    · have e2 : ((c : Int) + 1).toNat = c + 1 := by omega
      rw [e2]
      rcases Nat.lt_or_ge a c with k | k
      · have e3 : c = a + 1 := by omega
        rw [e3, show leastN (a + 1 + 1) = leastN a + leastN (a + 1) + 1 from rfl]
        rw [e3] at ir
        omega
      · have e3 : a = c := by omega
        rw [e3] at il
        have := leastN_step c
        cases c with
        | zero => rw [show leastN (0 + 1) = 1 from rfl]; omega
        | succ c =>
          rw [show leastN (c + 1 + 1) = leastN c + leastN (c + 1) + 1 from rfl]
          have := leastN_step c
          omega
theorem sInfoB : (Tryd.prog.info? 4).map (fun i => (i.zero, i.size, i.bytes)) = some (some (.bool false), 1, 1) := by kernel_rfl
/-- Acts lie there: what to do, and the number. -/
def ActsAt (w : World) (A : Option Addr) (acts : List (Int × Int)) : Prop := ∀ i, i < acts.length → ∃ ad : Addr, A = some ad ∧ w.cell? (ad.add (i * 2)) = some (.int .i64 (acts.getD i (0, 0)).1) ∧ w.cell? ⟨(ad.add (i * 2)).block, (ad.add (i * 2)).off + 1, none⟩ = some (.int .u64 (acts.getD i (0, 0)).2)
theorem cell_below {w w' : World} {a : Addr} {v : Value} (hb : Below w.heap.size w w') (h : w.cell? a = some v) : w'.cell? a = some v := by
  have hlt : a.block < w.heap.size := by
    unfold World.cell? at h
    rcases Nat.lt_or_ge a.block w.heap.size with c | c
    · exact c
    · rw [Array.getElem?_eq_none c] at h
      exact absurd h (by simp)
  have : w'.cell? a = w.cell? a := by
    unfold World.cell?
    rw [hb.block _ hlt]
  rw [this, h]
theorem acts_below {w w' : World} {A : Option Addr} {acts : List (Int × Int)} (hb : Below w.heap.size w w') (h : ActsAt w A acts) : ActsAt w' A acts := by
  intro i hi
  obtain ⟨ad, e, h1, h2⟩ := h i hi
  exact ⟨ad, e, cell_below hb h1, cell_below hb h2⟩
/-- What may be asked: puts and takes of numbers below the top. -/
def Formed (acts : List (Int × Int)) : Prop := ∀ a ∈ acts, (a.1 = 0 ∨ a.1 = 1) ∧ 0 ≤ a.2 ∧ a.2 < (top64 : Int)
def stepL (L : List Nat) (a : Int × Int) : List Nat := if a.1 = 0 then insL a.2.toNat L else delL a.2.toNat L
def actsL (L : List Nat) (acts : List (Int × Int)) : List Nat := acts.foldl stepL L
theorem stepL_len (L : List Nat) (a : Int × Int) (h : L.Pairwise (· < ·)) : (stepL L a).length ≤ L.length + 1 := by
  unfold stepL
  split
  · rw [len_insL _ _ h]; split <;> omega
  · have := len_delL a.2.toNat L h; omega
/-- A set lies there. -/
structure SetAt (w : World) (SS : Nat) (t : Tr) (L : List Nat) : Prop where
  tr : t.at w
  nodup : t.bl.Nodup
  rep : Rep t L
  ss : w.heap[SS]? = some (.cells (ssC t.p L.length t.sz false) 84 (0, 0))
  apart : SS ∉ t.bl
theorem SetAt.lt {w : World} {SS : Nat} {t : Tr} {L : List Nat} (h : SetAt w SS t L) : SS < w.heap.size := (Array.getElem?_eq_some_iff.1 h.ss).1
theorem SetAt.keep {w w' : World} {SS : Nat} {t : Tr} {L : List Nat} {F : List Nat} (h : SetAt w SS t L) (hc : Chg F w w') (hF : ∀ x ∈ SS :: t.bl, x ∉ F) : SetAt w' SS t L :=
  ⟨at_keep hc t h.tr (fun x hx => hF x (List.mem_cons_of_mem _ hx)), h.nodup, h.rep, (hc.keep SS h.lt (hF SS List.mem_cons_self)).trans h.ss, h.apart⟩
/-- A block of a set's is of one of two types. -/
theorem SetAt.typed {w : World} {SS : Nat} {t : Tr} {L : List Nat} (h : SetAt w SS t L) : ∀ x ∈ SS :: t.bl, ∃ cs T, w.heap[x]? = some (.cells cs T (0, 0)) ∧ (T = 84 ∨ T = 88) := by
  have tyT : ∀ u : Tr, u.at w → ∀ x ∈ u.bl, ∃ cs, w.heap[x]? = some (.cells cs 88 (0, 0)) := by
    intro u
    induction u with
    | nil => intro _ x hx; exact absurd hx (by simp [Tr.bl])
    | node g b bs l r k ihl ihr =>
      intro ha x hx
      rcases List.mem_cons.1 hx with rfl | hx
      · exact ⟨_, ha.2.1⟩
      · rcases List.mem_append.1 hx with e | e
        · exact ihl ha.2.2.1 x e
        · exact ihr ha.2.2.2 x e
  intro x hx
  rcases List.mem_cons.1 hx with rfl | hx
  · exact ⟨_, _, h.ss, .inl rfl⟩
  · obtain ⟨cs, hc⟩ := tyT t h.tr x hx
    exact ⟨cs, _, hc, .inr rfl⟩
theorem addT_bl (n s : Nat) (t : Tr) : (∀ x ∈ (addT n s t).bl, x ∈ t.bl ∨ x = n) ∧ (t.bl.Nodup → n ∉ t.bl → (addT n s t).bl.Nodup) := by
  unfold addT
  split
  · rw [setT_bl]; exact ⟨fun x hx => .inl hx, fun h _ => h⟩
  · exact ⟨insT_sub n s t, insT_nodup n s t⟩
theorem addT_sz (n s : Nat) (t : Tr) : (addT n s t).sz = t.sz + if ndT s t = true then 0 else 1 := by
  unfold addT
  by_cases h : ndT s t = true
  · rw [if_pos h, if_pos h, setT_sz]; rfl
  · rw [if_neg h, if_neg h, insT_sz, if_neg h]
theorem subT_bl (s : Nat) (z : Int) (t : Tr) : (∀ x ∈ (subT s z t).bl, x ∈ t.bl) ∧ (t.bl.Nodup → (subT s z t).bl.Nodup) := by
  unfold subT
  split
  · exact ⟨fun x hx => absurd hx (by simp [Tr.bl]), fun _ => List.nodup_nil⟩
  · exact ⟨delT_sub s t, delT_nodup s t⟩
/-- A put, on a set. -/
theorem put_calls (SS : Nat) (t : Tr) (L : List Nat) (s : Nat) (w : World) (h : SetAt w SS t L) (hl : L.length ≤ 9000) (hs : s < top64) :
    Calls Tryd.prog 51 #[.pointer (some ⟨SS, 0, none⟩), .int .u64 (s : Int)] w fun e w' => e = .returned (.tuple #[]) ∧ ∃ t', er t' = addT 0 s (er t) ∧ SetAt w' SS t' (insL s L) ∧ (∀ x ∈ t'.bl, x ∈ t.bl ∨ w.heap.size ≤ x) ∧ Chg (SS :: t.bl) w w' := by
  have hsz := h.rep.sz
  have hn : w.heap.size ∉ t.bl := fun e => Nat.lt_irrefl _ (at_lt t h.tr _ e)
  refine (Insert_calls t SS L.length t.sz s w h.tr h.nodup h.rep.good (by omega) h.rep.fit h.ss h.apart (by unfold top64 at hs; omega) ⟨by omega, by omega⟩ ⟨by omega, by omega⟩).mono ?_
  rintro e w' ⟨rfl, a, c, k⟩
  obtain ⟨b1, b2⟩ := addT_bl w.heap.size s t
  refine ⟨rfl, addT w.heap.size s t, er_addT _ s t, ⟨a, b2 h.nodup hn, h.rep.add _ s hs, ?_, ?_⟩, fun x hx => (b1 x hx).imp id (fun e => Nat.le_of_eq e.symm), k⟩
  · rw [c, addT_sz, len_insL s L h.rep.sorted]
    have e1 : (inT s t = true) = (s ∈ L) := propext (h.rep.isIn s)
    rw [show (if inT s t = true then (0 : Int) else 1) = if s ∈ L then 0 else 1 by simp only [e1]]
    congr 3
    · split <;> simp
    · split <;> simp
  · intro hm
    rcases b1 _ hm with e | e
    · exact h.apart e
    · have := h.lt; omega
/-- A take, on a set. -/
theorem take_calls (SS : Nat) (t : Tr) (L : List Nat) (s : Nat) (w : World) (h : SetAt w SS t L) (hl : L.length ≤ 9000) (hs : s < top64) :
    Calls Tryd.prog 52 #[.pointer (some ⟨SS, 0, none⟩), .int .u64 (s : Int)] w fun e w' => (∃ q, e = .returned (.bool q)) ∧ ∃ t', er t' = subT s L.length (er t) ∧ SetAt w' SS t' (delL s L) ∧ (∀ x ∈ t'.bl, x ∈ t.bl ∨ w.heap.size ≤ x) ∧ Chg (SS :: t.bl) w w' := by
  have hsz := h.rep.sz
  refine (Delete_calls t SS L.length s w h.tr h.nodup h.rep.good (by omega) h.rep.fit h.ss h.apart (by unfold top64 at hs; omega) ⟨by omega, by omega⟩).mono ?_
  rintro e w' ⟨rfl, a, c, k⟩
  obtain ⟨b1, b2⟩ := subT_bl s L.length t
  refine ⟨⟨_, rfl⟩, subT s L.length t, er_subT s _ t, ⟨a, b2 h.nodup, h.rep.sub s, ?_, fun hm => h.apart (b1 _ hm)⟩, fun x hx => .inl (b1 x hx), k⟩
  rw [c]
  have e1 : (inT s t = true) = (s ∈ L) := propext (h.rep.isIn s)
  have e2 := len_delL s L h.rep.sorted
  rw [show (if inT s t = true then (1 : Int) else 0) = if s ∈ L then 1 else 0 by simp only [e1]]
  congr 3
  split at e2 <;> rename_i hm
  · rw [if_pos hm]; omega
  · rw [if_neg hm]; omega
/-- Is it there, on a set? -/
theorem has_calls (SS : Nat) (t : Tr) (L : List Nat) (s : Nat) (w : World) (h : SetAt w SS t L) (hs : s < top64) :
    Calls Tryd.prog 48 #[.pointer (some ⟨SS, 0, none⟩), .int .u64 (s : Int)] w fun e w' => (∃ q, e = .returned (.bool q)) ∧ w' = w :=
  (Exists_calls t SS L.length t.sz false s w h.tr h.rep.fit h.ss (by unfold top64 at hs; omega)).mono (fun e w' hh => ⟨⟨_, hh.1⟩, hh.2⟩)
/-- A row that is made stays where a set is changed. -/
theorem row_chg {w w' : World} {SS : Nat} {t : Tr} {L : List Nat} (h : SetAt w SS t L) (hc : Chg (SS :: t.bl) w w') {base : Nat} {v : Value} {xs : List Bool} (hR : Kd.R Kd.bool 4 w base (fun k => base ≤ k) v xs) : Kd.R Kd.bool 4 w' base (fun k => base ≤ k) v xs := by
  refine Kd.R_mono (Kd.R_step (Kd.R_bound hR) (fun k hk hlt => ?_)) (fun k hk => hk.1)
  refine hc.keep k hlt (fun hm => ?_)
  obtain ⟨_, _, _, q, hq, cells, hcells⟩ := hk
  obtain ⟨cs, T, hT, hT2⟩ := h.typed k hm
  rw [hcells] at hT
  injection hT with hT
  injection hT with _ hT _
  have hq4 : q = 4 := by
    rcases List.mem_cons.1 hq with h | h
    · exact h
    · exact absurd h (by simp [Kd.bool, Kd.scalar])
  subst hq4
  rcases hT2 with e | e <;> rw [e] at hT <;> exact absurd hT (by decide)
/-- A set stays where a row is grown. -/
theorem set_grown {w w' : World} {SS : Nat} {t : Tr} {L : List Nat} (h : SetAt w SS t L) {base b2 : Nat} {v : Value} {xs : List Bool} (hR : Kd.R Kd.bool 4 w base (fun k => base ≤ k) v xs) (hb : Below b2 w w') (hg : w.grownBy w' v.ownBlock) : SetAt w' SS t L ∧ Chg v.ownBlock.toList w w' := by
  have hc : Chg v.ownBlock.toList w w' := ⟨hb.os, hb.tape, hb.output, hb.size, fun k hk hn => hg.block k hk (fun e => hn (by rw [← e]; simp))⟩
  refine ⟨h.keep hc (fun x hx hm => ?_), hc⟩
  obtain ⟨cs, T, hT, hT2⟩ := h.typed x hx
  refine Kd.R_ne hR hT ?_ (by
    cases ho : v.ownBlock with
    | none => rw [ho] at hm; exact absurd hm (by simp)
    | some k => rw [ho] at hm; simp at hm; rw [hm])
  rcases hT2 with e | e <;> rw [e] <;> decide
set_option maxHeartbeats 16000000 in
set_option maxRecDepth 100000 in
theorem change_calls (w0 : World) (A : Option Addr) (c : Nat) (acts : List (Int × Int)) (SS : Nat) (t : Tr) (L : List Nat) (w : World) (hA : ActsAt w0 A acts) (hac : acts.length ≤ c) (hF : Formed acts) (hl : L.length + acts.length ≤ 9000) (hB : Below w0.heap.size w0 w) (hS : SetAt w SS t L) (hSt : ∀ x ∈ SS :: t.bl, w0.heap.size ≤ x) :
    Calls Tryd.prog 36 #[.pointer (some ⟨SS, 0, none⟩), .slice A acts.length c] w fun e w' => (∃ v, e = .returned v) ∧ ∃ t', er t' = actsT (er t) acts ∧ SetAt w' SS t' (actsL L acts) ∧ (∀ x ∈ t'.bl, x ∈ t.bl ∨ w.heap.size ≤ x) ∧ Chg (SS :: t.bl) w w' := by
  have hal : acts.length ≤ 9000 := by omega
  have HH := Aside0.mk (And.intro hA (And.intro hF (And.intro hl (And.intro hB (And.intro hS (And.intro hSt hac))))))
  clear hA hF hl hB hS hSt hac
  go_enter Tryd.func36, Tryd.ntmps36
  go_wp2_with fail
  go_loopw [5, 6] (fun v5 v6 wx => ∃ (k : Nat) (bl : List Bool) (t2 : Tr), v6 = .int .i64 (k : Int) ∧ Aside0 (k ≤ acts.length) ∧ Aside0 (bl.length = k ∧ Kd.R Kd.bool 4 wx w.heap.size (fun k => w.heap.size ≤ k) v5 bl) ∧ Aside0 (SetAt wx SS t2 (actsL L (acts.take k)) ∧ (actsL L (acts.take k)).length ≤ L.length + k ∧ ∀ x ∈ t2.bl, x ∈ t.bl ∨ w.heap.size ≤ x) ∧ Aside0 (er t2 = actsT (er t) (acts.take k)) ∧ Aside0 (Chg (SS :: t.bl) w wx)) (fun _ v6 _ => Road.leftOf acts.length v6)
  case atStart => exact ⟨0, [], t, rfl, ⟨Nat.zero_le _⟩, ⟨rfl, Kd.R_nil _ _ _ _ _⟩, ⟨HH.out.2.2.2.2.1, Nat.le_refl _, fun x hx => .inl hx⟩, ⟨rfl⟩, ⟨Chg.refl _ _⟩⟩
  case round =>
    obtain ⟨k, bl, t2, rfl, HK, HR, HT, HE, HC⟩ := hrel
    have hBr : Below w0.heap.size w0 wr := ⟨HC.out.os.trans HH.out.2.2.2.1.os, HC.out.tape.trans HH.out.2.2.2.1.tape, HC.out.output.trans HH.out.2.2.2.1.output, Nat.le_trans HH.out.2.2.2.1.size HC.out.size, fun i hi => (HC.out.keep i (Nat.lt_of_lt_of_le hi HH.out.2.2.2.1.size) (fun hm => by have := HH.out.2.2.2.2.2.1 i hm; omega)).trans (HH.out.2.2.2.1.block i hi)⟩
    rcases Nat.lt_or_ge k acts.length with hk | hk
    · have k1' := eq_true (show (k : Int) < (acts.length : Int) by omega)
      have k2' := eq_true hk
      obtain ⟨ad, had, h1, h2⟩ := acts_below hBr HH.out.1 k hk
      subst had
      obtain ⟨a, ha⟩ : ∃ a, a = acts.getD k (0, 0) := ⟨_, rfl⟩
      rw [← ha] at h1 h2
      have hmem : a ∈ acts := by rw [ha, List.getD_eq_getElem?_getD, List.getElem?_eq_getElem hk]; exact List.getElem_mem _
      obtain ⟨hop, h0, htop⟩ := HH.out.2.1 a hmem
      obtain ⟨s, hs⟩ : ∃ s : Nat, (s : Int) = a.2 := ⟨a.2.toNat, by omega⟩
      have hst : s < top64 := by omega
      have htk : actsL L (acts.take (k + 1)) = stepL (actsL L (acts.take k)) a := by
        rw [List.take_succ_eq_append_getElem hk, actsL, List.foldl_append]
        show stepL (List.foldl stepL L (acts.take k)) acts[k] = _
        rw [ha, List.getD_eq_getElem?_getD, List.getElem?_eq_getElem hk]
        rfl
      have htt : actsT (er t) (acts.take (k + 1)) = stepT (actsT (er t) (acts.take k)) a := by
        rw [List.take_succ_eq_append_getElem hk, actsT, List.foldl_append]
        show stepT (List.foldl stepT (er t) (acts.take k)) acts[k] = _
        rw [ha, List.getD_eq_getElem?_getD, List.getElem?_eq_getElem hk]
        rfl
      have hta : stepT (actsT (er t) (acts.take k)) a = if a.1 = 0 then addT 0 s (er t2) else subT s (actsL L (acts.take k)).length (er t2) := by
        unfold stepT
        rw [← HE.out, er_nums, HT.out.1.rep.nums, ← hs]
        rfl
      rw [hta] at htt
      clear hta
      have hlen := stepL_len (actsL L (acts.take k)) a HT.out.1.rep.sorted
      have hsa : stepL (actsL L (acts.take k)) a = if a.1 = 0 then insL s (actsL L (acts.take k)) else delL s (actsL L (acts.take k)) := by
        unfold stepL
        rw [← hs]
        rfl
      rw [← hs] at h2
      rw [hsa] at htk hlen
      have HL := Aside0.mk (show (actsL L (acts.take k)).length ≤ 9000 by have := HT.out.2.1; have := HH.out.2.2.1; omega)
      have HST := Aside0.mk (And.intro hst hk)
      rcases hop with hop | hop
      · rw [hop] at h1
        rw [if_pos hop] at htk hlen htt
        have HT2 := Aside0.mk (And.intro htk hlen)
        have HTT := Aside0.mk htt
        clear htt
        have HBR := Aside0.mk hBr
        clear hop h0 htop hs hst htk hlen hsa hmem ha hk hBr
        have hc0 : Chg [] wr (wr.alloc (.cells #[.int .i64 0, .int .u64 (s : Int)] 34 (0, 0))) := ⟨rfl, rfl, rfl, by simp, fun k hk _ => Below.heap_alloc _ _ _ hk⟩
        have hS1 : SetAt (wr.alloc (.cells #[.int .i64 0, .int .u64 (s : Int)] 34 (0, 0))) SS t2 (actsL L (acts.take k)) := HT.out.1.keep hc0 (by simp)
        have hR1 := Kd.R_alloc HR.out.2 (.cells #[.int .i64 0, .int .u64 (s : Int)] 34 (0, 0))
        have hq1 : (wr.alloc (.cells #[.int .i64 0, .int .u64 (s : Int)] 34 (0, 0))).heap[wr.heap.size]? = some (.cells #[.int .i64 0, .int .u64 (s : Int)] 34 (0, 0)) := heap_alloc_new wr _
        have HX := Aside0.mk (And.intro hc0 (And.intro hS1 (And.intro hR1 hq1)))
        clear hc0 hS1 hR1 hq1
        go_wp2_with fail
        obtain ⟨hc0, hS1, hR1, hq1⟩ := HX.out
        generalize wr.alloc (.cells #[.int .i64 0, .int .u64 (s : Int)] 34 (0, 0)) = W1 at hc0 hS1 hR1 hq1 ⊢
        clear HX
        refine (has_calls SS t2 _ s W1 hS1 HST.out.1).mono ?_
        rintro e w2 ⟨⟨q, rfl⟩, rfl⟩
        have HX := Aside0.mk (And.intro hR1 (And.intro (Nat.le_trans HC.out.size hc0.size) (show (bl.length + 1) * 1 ≤ 140737488355328 by have := HR.out.1; have := HK.out; omega)))
        have HY := Aside0.mk (And.intro hS1 (And.intro hc0 hq1))
        clear hR1 hS1 hc0 hq1
        go_wp2_with (first | ((with_reducible refine gate_builtin (b := .append) (xs := #[.tmp 25, .tmp 30]) rfl ?_); at_builtin; refine Kd.R_append Kd.bool (w0 := w2) w.heap.size rfl (.tmp 25) (.tmp 30) 26 4 (.bool false) 1 rfl Tryd.underlying26 sInfoB rfl (by decide) (by decide) _ bl q [.bool q] (fun k => w.heap.size ≤ k) (fun _ => False) rfl rfl (by exact rfl) (fun _ hk => hk.elim) (fun k hk => Nat.le_trans HX.out.2.1 hk) HX.out.1 (Below.refl _ _) HX.out.2.1 (by have := HX.out.2.2; omega) ?_; intro v1 w1 ho hb1 hg hat; obtain ⟨hS2, hc2⟩ := set_grown HY.out.1 HX.out.1 hb1 hg; have hq2 := (hg.block wr.heap.size (Array.getElem?_eq_some_iff.1 HY.out.2.2).1 (Kd.R_ne HX.out.1 HY.out.2.2 (by decide))).trans HY.out.2.2; have kk := cell_of_row w1 wr.heap.size 1 _ _ _ hq2; replace kk : w1.cell? ⟨wr.heap.size, 1, none⟩ = some (.int .u64 (s : Int)) := kk; have H1 := Aside0.mk (And.intro ho (And.intro hb1 (And.intro hS2 hc2))); clear ho hb1 hg hat hS2 hc2 hq2))
        refine (put_calls SS t2 _ s w1 H1.out.2.2.1 HL.out HST.out.1).mono ?_
        rintro e w4 ⟨rfl, t3, he3, hS3, hx3, hc3⟩
        have HE3 := Aside0.mk he3
        clear he3
        have hR3 := row_chg H1.out.2.2.1 hc3 H1.out.1
        have H3 := Aside0.mk (And.intro hS3 (And.intro hx3 (And.intro hc3 hR3)))
        clear hS3 hx3 hc3 hR3 kk
        go_wp2_with fail
        go_roundw
        case rel =>
          obtain ⟨ho, hb1, hS2, hc2⟩ := H1.out
          obtain ⟨hS3, hx3, hc3, hR3⟩ := H3.out
          have hown : ∀ x ∈ (u5).ownBlock.toList, w.heap.size ≤ x := fun x hx => HX.out.1.1 x (by cases ho5 : (u5).ownBlock with
            | none => rw [ho5] at hx; exact absurd hx (by simp)
            | some k => rw [ho5] at hx; simp at hx; rw [hx])
          have hcc : Chg (SS :: t.bl) w w4 := by
            refine (HC.out.trans (G := []) HY.out.2.1 (fun x h => h) (fun x h _ => absurd h (by simp))).trans (G := (u5).ownBlock.toList) hc2 (fun x h => h) (fun x h h2 => by have := hown x h; omega) |>.trans hc3 (fun x h => h) (fun x h h2 => ?_)
            rcases List.mem_cons.1 h with rfl | h
            · exact List.mem_cons_self
            · rcases HT.out.2.2 x h with h | h
              · exact List.mem_cons_of_mem _ h
              · omega
          refine ⟨k + 1, bl ++ [q], t3, ?_, ⟨HST.out.2⟩, ⟨by rw [List.length_append, HR.out.1]; rfl, hR3⟩, ⟨by rw [HT2.out.1]; exact hS3, by rw [HT2.out.1]; have := HT2.out.2; have := HT.out.2.1; omega, fun x hx => ?_⟩, ⟨HE3.out.trans HTT.out.symm⟩, ⟨hcc⟩⟩
          · rw [Road.w64 ((k : Int) + 1) ((k + 1 : Nat) : Int) (by omega) (by omega) (by have := HST.out.2; omega)]
          · rcases hx3 x hx with h | h
            · exact HT.out.2.2 x h
            · right
              have := HC.out.size; have := HY.out.2.1.size; have := hc2.size; omega
        case measure =>
          rw [Road.w64 ((k : Int) + 1) ((k + 1 : Nat) : Int) (by omega) (by omega) (by have := HST.out.2; omega)]
          exact Road.leftOf_lt HST.out.2
      · rw [hop] at h1
        rw [if_neg (by rw [hop]; decide)] at htk hlen htt
        have HT2 := Aside0.mk (And.intro htk hlen)
        have HTT := Aside0.mk htt
        clear htt
        have HBR := Aside0.mk hBr
        clear hop h0 htop hs hst htk hlen hsa hmem ha hk hBr
        have hc0 : Chg [] wr (wr.alloc (.cells #[.int .i64 1, .int .u64 (s : Int)] 34 (0, 0))) := ⟨rfl, rfl, rfl, by simp, fun k hk _ => Below.heap_alloc _ _ _ hk⟩
        have hS1 : SetAt (wr.alloc (.cells #[.int .i64 1, .int .u64 (s : Int)] 34 (0, 0))) SS t2 (actsL L (acts.take k)) := HT.out.1.keep hc0 (by simp)
        have hR1 := Kd.R_alloc HR.out.2 (.cells #[.int .i64 1, .int .u64 (s : Int)] 34 (0, 0))
        have hq1 : (wr.alloc (.cells #[.int .i64 1, .int .u64 (s : Int)] 34 (0, 0))).heap[wr.heap.size]? = some (.cells #[.int .i64 1, .int .u64 (s : Int)] 34 (0, 0)) := heap_alloc_new wr _
        have HX := Aside0.mk (And.intro hc0 (And.intro hS1 (And.intro hR1 hq1)))
        clear hc0 hS1 hR1 hq1
        go_wp2_with fail
        obtain ⟨hc0, hS1, hR1, hq1⟩ := HX.out
        generalize wr.alloc (.cells #[.int .i64 1, .int .u64 (s : Int)] 34 (0, 0)) = W1 at hc0 hS1 hR1 hq1 ⊢
        clear HX
        refine (take_calls SS t2 _ s W1 hS1 HL.out HST.out.1).mono ?_
        rintro e w2 ⟨⟨q, rfl⟩, t3, he3, hS3, hx3, hc3⟩
        have HE3 := Aside0.mk he3
        clear he3
        have hR2 := row_chg hS1 hc3 hR1
        have HX := Aside0.mk (And.intro hR2 (And.intro (Nat.le_trans HC.out.size (Nat.le_trans hc0.size hc3.size)) (show (bl.length + 1) * 1 ≤ 140737488355328 by have := HR.out.1; have := HK.out; omega)))
        have HY := Aside0.mk (And.intro hS3 (And.intro hc0 (And.intro hx3 hc3)))
        clear hR1 hS1 hc0 hq1 hS3 hx3 hc3 hR2
        go_wp2_with (first | ((with_reducible refine gate_builtin (b := .append) (xs := #[.tmp 38, .tmp 43]) rfl ?_); at_builtin; refine Kd.R_append Kd.bool (w0 := w2) w.heap.size rfl (.tmp 38) (.tmp 43) 26 4 (.bool false) 1 rfl Tryd.underlying26 sInfoB rfl (by decide) (by decide) _ bl q [.bool q] (fun k => w.heap.size ≤ k) (fun _ => False) rfl rfl (by exact rfl) (fun _ hk => hk.elim) (fun k hk => Nat.le_trans HX.out.2.1 hk) HX.out.1 (Below.refl _ _) HX.out.2.1 (by have := HX.out.2.2; omega) ?_; intro v1 w1 ho hb1 hg hat; obtain ⟨hS4, hc4⟩ := set_grown HY.out.1 HX.out.1 hb1 hg; have H1 := Aside0.mk (And.intro ho (And.intro hS4 hc4)); clear ho hb1 hg hat hS4 hc4))
        go_roundw
        case rel =>
          obtain ⟨ho, hS4, hc4⟩ := H1.out
          obtain ⟨hS3, hc0, hx3, hc3⟩ := HY.out
          have hown : ∀ x ∈ (u5).ownBlock.toList, w.heap.size ≤ x := fun x hx => HX.out.1.1 x (by cases ho5 : (u5).ownBlock with
            | none => rw [ho5] at hx; exact absurd hx (by simp)
            | some k => rw [ho5] at hx; simp at hx; rw [hx])
          have hcc : Chg (SS :: t.bl) w w1 := by
            refine ((HC.out.trans (G := []) hc0 (fun x h => h) (fun x h _ => absurd h (by simp))).trans hc3 (fun x h => h) (fun x h h2 => ?_)).trans (G := (u5).ownBlock.toList) hc4 (fun x h => h) (fun x h h2 => by have := hown x h; omega)
            rcases List.mem_cons.1 h with rfl | h
            · exact List.mem_cons_self
            · rcases HT.out.2.2 x h with h | h
              · exact List.mem_cons_of_mem _ h
              · omega
          refine ⟨k + 1, bl ++ [q], t3, ?_, ⟨HST.out.2⟩, ⟨by rw [List.length_append, HR.out.1]; rfl, ho⟩, ⟨by rw [HT2.out.1]; exact hS4, by rw [HT2.out.1]; have := HT2.out.2; have := HT.out.2.1; omega, fun x hx => ?_⟩, ⟨HE3.out.trans HTT.out.symm⟩, ⟨hcc⟩⟩
          · rw [Road.w64 ((k : Int) + 1) ((k + 1 : Nat) : Int) (by omega) (by omega) (by have := HST.out.2; omega)]
          · rcases hx3 x hx with h | h
            · exact HT.out.2.2 x h
            · right
              have := HC.out.size; have := hc0.size; omega
        case measure =>
          rw [Road.w64 ((k : Int) + 1) ((k + 1 : Nat) : Int) (by omega) (by omega) (by have := HST.out.2; omega)]
          exact Road.leftOf_lt HST.out.2
    · obtain rfl : k = acts.length := by have := HK.out; omega
      have HF := Aside0.mk (show SetAt wr SS t2 (actsL L acts) by have := HT.out.1; rw [List.take_length] at this; exact this)
      have HE2 := Aside0.mk (show er t2 = actsT (er t) acts by have := HE.out; rw [List.take_length] at this; exact this)
      clear hk
      go_wp2_with fail
      go_ret
      exact ⟨⟨_, rfl⟩, t2, HE2.out, HF.out, HT.out.2.2, HC.out⟩
theorem cell_lt {w : World} {a : Addr} {v : Value} (h : w.cell? a = some v) : a.block < w.heap.size := by
  unfold World.cell? at h
  rcases Nat.lt_or_ge a.block w.heap.size with c | c
  · exact c
  · rw [Array.getElem?_eq_none c] at h
    exact absurd h (by simp)
theorem tab_lt {w : World} {g : Nat} (h : TabAt g Lib.deBruijn64tab w) : g < w.heap.size := cell_lt (h 0 (by decide))
theorem tab_below {w w' : World} {g : Nat} {tab : List Nat} (hb : Below w.heap.size w w') (h : TabAt g tab w) : TabAt g tab w' := fun j hj => cell_below hb (h j hj)
theorem Low.below {base : Nat} {G : List Nat} {w w' : World} (h : Low base G w w') {b : Nat} (hb : b ≤ base) (hG : ∀ x ∈ G, b ≤ x) : Below b w w' := ⟨h.os, h.tape, h.output, h.size, fun k hk => h.keep k (Nat.lt_of_lt_of_le hk hb) (fun e => by have := hG k e; omega)⟩
theorem runL_take (m : Int) : ∀ (ns L : List Nat), (L.length : Int) < m → (runL (fun L _ => decide (((L.length + 1 : Nat) : Int) < m)) L ns).1 = L ++ ns.take (m.toNat - L.length)
  | [], L, _ => by simp [runL]
  | n :: ns, L, h => by
    rw [runL]
    have e1 : m.toNat - L.length = (m.toNat - (L.length + 1)) + 1 := by omega
    by_cases c : ((L.length + 1 : Nat) : Int) < m
    · rw [if_pos (by simpa using c), runL_take m ns (L ++ [n]) (by rw [List.length_append, List.length_singleton]; exact c), List.length_append, List.length_singleton, List.append_assoc, e1, List.take_succ_cons]
      rfl
    · rw [if_neg (by simpa using c), e1, show m.toNat - (L.length + 1) = 0 by omega]
      rfl
theorem stepL_le (L : List Nat) (a : Int × Int) : (stepL L a).length ≤ L.length + 1 := by
  have h1 : ∀ (s : Nat) (L : List Nat), (insL s L).length ≤ L.length + 1 := by
    intro s L
    induction L with
    | nil => exact Nat.le_refl _
    | cons x xs ih =>
      rw [insL]
      split
      · simp only [List.length_cons]; omega
      · split <;> simp
  have h2 : ∀ (s : Nat) (L : List Nat), (delL s L).length ≤ L.length := by
    intro s L
    induction L with
    | nil => exact Nat.le_refl _
    | cons x xs ih =>
      rw [delL]
      split
      · simp only [List.length_cons]; omega
      · split <;> simp
  unfold stepL
  split
  · exact h1 _ _
  · exact Nat.le_succ_of_le (h2 _ _)
theorem actsL_le : ∀ (acts : List (Int × Int)) (L : List Nat), (actsL L acts).length ≤ L.length + acts.length
  | [], L => Nat.le_refl _
  | a :: acts, L => by
    have h1 := actsL_le acts (stepL L a)
    have h2 := stepL_le L a
    show (actsL (stepL L a) acts).length ≤ _
    rw [List.length_cons]
    omega
theorem runL_all : ∀ (ns L : List Nat), (runL (fun _ _ => true) L ns).1 = L ++ ns
  | [], L => by simp [runL]
  | n :: ns, L => by rw [runL, if_pos rfl, runL_all ns, List.append_assoc]; rfl
set_option maxHeartbeats 4000000 in
theorem set_make (A : Option Addr) (c : Nat) (acts : List (Int × Int)) (w : World) (hA : ActsAt w A acts) (hac : acts.length ≤ c) (hF : Formed acts) (hl : acts.length ≤ 9000) :
    Calls Tryd.prog 30 #[.slice A acts.length c] w fun e w' => ∃ SS t', e = .returned (.pointer (some ⟨SS, 0, none⟩)) ∧ SetAt w' SS t' (actsL [] acts) ∧ w.heap.size ≤ SS ∧ (∀ x ∈ t'.bl, w.heap.size ≤ x) ∧ Below w.heap.size w w' ∧ er t' = actsT .nil acts := by
  have hb1 : Below w.heap.size w (w.alloc (.cells (ssC (.pointer none) 0 0 false) 84 (0, 0))) := below_alloc (Below.refl _ _) _
  have hS1 : SetAt (w.alloc (.cells (ssC (.pointer none) 0 0 false) 84 (0, 0))) w.heap.size .nil [] := ⟨trivial, List.nodup_nil, Rep.nil, heap_alloc_new w _, by simp [Tr.bl]⟩
  have HC := Aside0.mk (change_calls w A c acts w.heap.size .nil [] _ hA hac hF (by simpa using hl) hb1 hS1 (fun x hx => by rcases List.mem_cons.1 hx with rfl | h; exact Nat.le_refl _; exact absurd h (by simp [Tr.bl])))
  have HB := Aside0.mk hb1
  clear hA hac hF hl hb1 hS1
  go_enter Tryd.func30, Tryd.ntmps30
  go_wp2_with fail
  refine HC.out.mono ?_
  rintro e w1 ⟨⟨v, rfl⟩, t', he, hS', hx, hc⟩
  have H1 := Aside0.mk (And.intro hS' (And.intro hx (And.intro hc he)))
  clear hS' hx hc he
  go_wp2_with fail
  go_ret
  obtain ⟨hS', hx, hc, he⟩ := H1.out
  refine ⟨w.heap.size, t', rfl, hS', Nat.le_refl _, fun x h => ?_, ?_⟩
  · rcases hx x h with h | h
    · exact absurd h (by simp [Tr.bl])
    · have := HB.out.size; omega
  · refine ⟨⟨hc.os.trans HB.out.os, hc.tape.trans HB.out.tape, hc.output.trans HB.out.output, Nat.le_trans HB.out.size hc.size, fun k hk => (hc.keep k (Nat.lt_of_lt_of_le hk HB.out.size) (fun hm => ?_)).trans (HB.out.block k hk)⟩, he⟩
    rcases List.mem_cons.1 hm with e | e
    · omega
    · exact absurd e (by simp [Tr.bl])
theorem rangeF_calls (N base : Nat) (G : List Nat) (I : List Nat → World → Prop) (go : List Nat → Nat → Bool) (Bo Bm : Nat)
    (hF : ∀ (L : List Nat) (n : Nat) (w : World), I L w → L.length < N → n < 18446744073709549568 → Calls Tryd.prog 32 #[.int .u64 (n : Int), .pointer (some ⟨Bo, 0, none⟩), .pointer (some ⟨Bm, 0, none⟩)] w fun e w' => e = .returned (.bool (go L n)) ∧ I (L ++ [n]) w' ∧ Low base G w w')
    (hgT : 3 < base ∧ 3 ∉ G) (SS : Nat) (t : Tr) (L : List Nat) (w : World) (hS : SetAt w SS t L) (hI : I [] w) (hT : TabAt 3 Lib.deBruijn64tab w) (hd : ∀ x ∈ t.bl, x < base ∧ x ∉ G) (hN : L.length ≤ N) :
    Calls Tryd.prog 31 #[.pointer (some ⟨SS, 0, none⟩), .func (.func 32) #[] #[.pointer (some ⟨Bo, 0, none⟩), .pointer (some ⟨Bm, 0, none⟩)]] w fun e w' => e = .returned (.tuple #[]) ∧ I (runL go [] L).1 w' ∧ Low base G w w' := by
  have c0 : w.cell? ⟨SS, 0, none⟩ = some (.pointer t.pp) := (cell_of_row w SS 0 _ _ _ hS.ss).trans rfl
  have HI := Aside0.mk (iterF_calls N base G I go Bo Bm hF hgT t [] w hS.tr hS.rep.fit hI hT hd (by rw [hS.rep.nums]; simpa using hN))
  have HN := Aside0.mk hS.rep.nums
  clear hF hgT hS hI hT hd hN
  go_enter Tryd.func31, Tryd.ntmps31
  go_wp2_with fail
  refine HI.out.mono ?_
  rintro e w1 ⟨rfl, i1, l1⟩
  rw [HN.out] at i1
  have H1 := Aside0.mk (And.intro i1 l1)
  clear i1 l1
  go_wp2_with fail
  go_end0
  exact ⟨rfl, H1.out.1, H1.out.2⟩
theorem rangeA_calls (N base : Nat) (G : List Nat) (I : List Nat → World → Prop) (go : List Nat → Nat → Bool) (Bo : Nat)
    (hF : ∀ (L : List Nat) (n : Nat) (w : World), I L w → L.length < N → n < 18446744073709549568 → Calls Tryd.prog 53 #[.int .u64 (n : Int), .pointer (some ⟨Bo, 0, none⟩)] w fun e w' => e = .returned (.bool (go L n)) ∧ I (L ++ [n]) w' ∧ Low base G w w')
    (hgT : 3 < base ∧ 3 ∉ G) (SS : Nat) (t : Tr) (L : List Nat) (w : World) (hS : SetAt w SS t L) (hI : I [] w) (hT : TabAt 3 Lib.deBruijn64tab w) (hd : ∀ x ∈ t.bl, x < base ∧ x ∉ G) (hN : L.length ≤ N) :
    Calls Tryd.prog 31 #[.pointer (some ⟨SS, 0, none⟩), .func (.func 53) #[] #[.pointer (some ⟨Bo, 0, none⟩)]] w fun e w' => e = .returned (.tuple #[]) ∧ I (runL go [] L).1 w' ∧ Low base G w w' := by
  have c0 : w.cell? ⟨SS, 0, none⟩ = some (.pointer t.pp) := (cell_of_row w SS 0 _ _ _ hS.ss).trans rfl
  have HI := Aside0.mk (iterA_calls N base G I go Bo hF hgT t [] w hS.tr hS.rep.fit hI hT hd (by rw [hS.rep.nums]; simpa using hN))
  have HN := Aside0.mk hS.rep.nums
  clear hF hgT hS hI hT hd hN
  go_enter Tryd.func31, Tryd.ntmps31
  go_wp2_with fail
  refine HI.out.mono ?_
  rintro e w1 ⟨rfl, i1, l1⟩
  rw [HN.out] at i1
  have H1 := Aside0.mk (And.intro i1 l1)
  clear i1 l1
  go_wp2_with fail
  go_end0
  exact ⟨rfl, H1.out.1, H1.out.2⟩
set_option maxHeartbeats 8000000 in
set_option maxRecDepth 100000 in
theorem SetFirst_walk (A : Option Addr) (c : Nat) (acts : List (Int × Int)) (m : Int) (w : World) (hA : ActsAt w A acts) (hac : acts.length ≤ c) (hF : Formed acts) (hl : acts.length ≤ 9000) (hm : 1 ≤ m) (hT : TabAt 3 Lib.deBruijn64tab w) :
    Calls Tryd.prog 15 #[.slice A acts.length c, .int .i64 m] w fun e w' => ∃ v, e = .returned v ∧ Kd.R (Kd.int .u64) 32 w' w.heap.size (fun _ => True) v (((actsL [] acts).take m.toNat).map (fun n : Nat => (n : Int))) ∧ Below w.heap.size w w' := by
  obtain ⟨W2, hW2⟩ : ∃ W2, W2 = (w.alloc (.cells #[.int .i64 m] 3 (0, 0))).alloc (.cells #[.slice none 0 0] 25 (0, 0)) := ⟨_, rfl⟩
  have b2 : Below w.heap.size w W2 := by rw [hW2]; exact below_alloc (below_alloc (Below.refl _ _) _) _
  have z2 : W2.heap.size = w.heap.size + 2 := by rw [hW2]; simp
  have qm : W2.heap[w.heap.size]? = some (.cells #[.int .i64 m] 3 (0, 0)) := by
    rw [hW2, Below.heap_alloc _ _ _ (by simp)]
    exact heap_alloc_new w _
  have qo : W2.heap[w.heap.size + 1]? = some (.cells #[.slice none 0 0] 25 (0, 0)) := by
    have := heap_alloc_new (w.alloc (.cells #[.int .i64 m] 3 (0, 0))) (.cells #[.slice none 0 0] 25 (0, 0))
    rw [hW2]
    simpa using this
  have HS := Aside0.mk (set_make A c acts W2 (acts_below b2 hA) hac hF hl)
  have H2 := Aside0.mk (And.intro b2 (And.intro z2 (And.intro qm (And.intro qo (And.intro hT (And.intro hm (And.intro hl hF)))))))
  clear b2 z2 qm qo hA hac hF hl hm hT
  go_enter Tryd.func15, Tryd.ntmps15
  go_wp2_with fail
  rw [← hW2]
  clear hW2
  refine HS.out.mono ?_
  rintro e w3 ⟨SS, t, rfl, hS3, hss, hx, hb3, -⟩
  obtain ⟨b2, z2, qm, qo, hT, hm, hl, hF⟩ := H2.out
  have q3m : w3.heap[w.heap.size]? = some (.cells #[.int .i64 m] 3 (0, 0)) := (hb3.block _ (by omega)).trans qm
  have q3o : w3.heap[w.heap.size + 1]? = some (.cells #[.slice none 0 0] 25 (0, 0)) := (hb3.block _ (by omega)).trans qo
  have hlt := tab_lt hT
  have z3 := hb3.size
  have hb03 : Below w.heap.size w w3 := below_step b2 hb3
  have hI : firstCI w3.heap.size (w.heap.size + 1) w.heap.size m [] w3 := ⟨Nat.le_refl _, q3m, _, q3o, Kd.R_nil _ _ _ _ _⟩
  have hR := rangeF_calls 9000 w3.heap.size [w.heap.size + 1] (firstCI w3.heap.size (w.heap.size + 1) w.heap.size m) (fun L _ => decide (((L.length + 1 : Nat) : Int) < m)) (w.heap.size + 1) w.heap.size
    (fun L n w hI hL hn => firstC_calls _ _ _ m L n w hI (by omega) ⟨by omega, by omega, by omega⟩) ⟨by omega, by simp; omega⟩ SS t (actsL [] acts) w3 hS3 hI (tab_below hb03 hT)
    (fun x h => ⟨at_lt t hS3.tr x h, by have := hx x h; simp; omega⟩) (by have := actsL_le acts []; simp only [List.length_nil] at this; omega)
  rw [runL_take m (actsL [] acts) [] (by simp only [List.length_nil]; omega)] at hR
  have HR := Aside0.mk (And.intro hR (And.intro hb03 (And.intro hlt z3)))
  clear b2 z2 qm qo hT hm hl hF q3m q3o hlt z3 hb03 hI hR hS3 hss hx hb3
  go_wp2_with fail
  refine HR.out.1.mono ?_
  rintro e w4 ⟨rfl, i4, l4⟩
  obtain ⟨i1, i2, v, i3, i4⟩ := i4
  have kv : w4.cell? ⟨w.heap.size + 1, 0, none⟩ = some v := cell_of_row w4 (w.heap.size + 1) 0 _ _ _ i3
  have H4 := Aside0.mk (And.intro l4 i4)
  clear i1 i2 i3 i4 l4
  go_wp2_with fail
  go_ret
  exact ⟨_, rfl, Kd.R_mono (Kd.R_lower H4.out.2 HR.out.2.1.size) (fun _ _ => trivial), HR.out.2.1.trans (H4.out.1.below HR.out.2.1.size (fun x h => by rw [List.mem_singleton.1 h]; omega))⟩
set_option maxHeartbeats 8000000 in
set_option maxRecDepth 100000 in
theorem all_walk (SS : Nat) (t : Tr) (L : List Nat) (w : World) (hS : SetAt w SS t L) (hl : L.length ≤ 9000) (hT : TabAt 3 Lib.deBruijn64tab w) :
    Calls Tryd.prog 37 #[.pointer (some ⟨SS, 0, none⟩)] w fun e w' => ∃ v, e = .returned v ∧ Kd.R (Kd.int .u64) 32 w' w.heap.size (fun _ => True) v (L.map (fun n : Nat => (n : Int))) ∧ Below w.heap.size w w' := by
  obtain ⟨W2, hW2⟩ : ∃ W2, W2 = w.alloc (.cells #[.slice none 0 0] 25 (0, 0)) := ⟨_, rfl⟩
  have b2 : Below w.heap.size w W2 := by rw [hW2]; exact below_alloc (Below.refl _ _) _
  have z2 : W2.heap.size = w.heap.size + 1 := by rw [hW2]; simp
  have qo : W2.heap[w.heap.size]? = some (.cells #[.slice none 0 0] 25 (0, 0)) := by rw [hW2]; exact heap_alloc_new w _
  have hS2 : SetAt W2 SS t L := hS.keep (F := []) ⟨b2.os, b2.tape, b2.output, b2.size, fun k hk _ => b2.block k hk⟩ (by simp)
  have hlt := tab_lt hT
  have hI : allCI W2.heap.size w.heap.size [] W2 := ⟨Nat.le_refl _, _, qo, Kd.R_nil _ _ _ _ _⟩
  have hR := rangeA_calls 9000 W2.heap.size [w.heap.size] (allCI W2.heap.size w.heap.size) (fun _ _ => true) w.heap.size
    (fun L n w hI hL hn => allC_calls _ _ L n w hI (by omega) (by omega)) ⟨by omega, by simp; omega⟩ SS t L W2 hS2 hI (tab_below b2 hT)
    (fun x h => ⟨at_lt t hS2.tr x h, by have := at_lt t hS.tr x h; simp; omega⟩) hl
  rw [runL_all L [], List.nil_append] at hR
  have HR := Aside0.mk (And.intro hR b2)
  clear b2 z2 qo hS hT hl hS2 hlt hI hR
  go_enter Tryd.func37, Tryd.ntmps37
  go_wp2_with fail
  rw [← hW2]
  clear hW2
  refine HR.out.1.mono ?_
  rintro e w4 ⟨rfl, i4, l4⟩
  obtain ⟨i1, v, i3, i4⟩ := i4
  have kv : w4.cell? ⟨w.heap.size, 0, none⟩ = some v := cell_of_row w4 w.heap.size 0 _ _ _ i3
  have H4 := Aside0.mk (And.intro l4 i4)
  clear i1 i3 i4 l4
  go_wp2_with fail
  go_ret
  exact ⟨_, rfl, Kd.R_mono (Kd.R_lower H4.out.2 HR.out.2.size) (fun _ _ => trivial), HR.out.2.trans (H4.out.1.below HR.out.2.size (fun x h => by rw [List.mem_singleton.1 h]; omega))⟩
theorem stepT_rep {u : Tr} {L : List Nat} (h : Rep u L) (a : Int × Int) (h1 : a.2 < (top64 : Int)) : Rep (stepT u a) (stepL L a) := by
  unfold stepT stepL
  split
  · exact h.add 0 _ (by unfold top64 at *; omega)
  · rw [h.nums]; exact h.sub _
theorem actsT_rep : ∀ (acts : List (Int × Int)) {u : Tr} {L : List Nat}, Rep u L → (∀ a ∈ acts, a.2 < (top64 : Int)) → Rep (actsT u acts) (actsL L acts)
  | [], _, _, h, _ => h
  | a :: acts, _, _, h, hF => actsT_rep acts (stepT_rep h a (hF a List.mem_cons_self)) (fun x hx => hF x (List.mem_cons_of_mem _ hx))
theorem actsT_bal : ∀ (acts : List (Int × Int)) {u : Tr} {L : List Nat}, Rep u L → u.bal → (∀ a ∈ acts, a.1 = 0 ∧ a.2 < (top64 : Int)) → (actsT u acts).bal
  | [], _, _, _, h, _ => h
  | a :: acts, u, L, h, hb, hF => by
    have ha := hF a List.mem_cons_self
    refine actsT_bal acts (stepT_rep h a ha.2) ?_ (fun x hx => hF x (List.mem_cons_of_mem _ hx))
    unfold stepT
    rw [if_pos ha.1]
    exact addT_bal _ _ _ h.good hb

end Go.Proofs.YtjhdnapgdajllaaDoor.SetW
