/- WALKS: a set's bytes read (avl.Decode): the nodes lie side by side in one block. -/
import Derived.Test.YtjhdnapgdajllaaDoorProg
import Derived.Below
import Derived.Deep.Draws
import Derived.Deep.AppendLies
import Derived.Maps.AppendAt
import Derived.OwnWalk
import Derived.Laws.BytesArg
import Derived.Laws.MakeOwn
import Derived.Laws.OwnMore
import Derived.Deep.OwnRows
import Derived.Tactics
import Derived.Lib.ConvBytes
import Derived.Laws.Slices
import Derived.WalkKit
import Derived.KernelRfl
import Derived.RowKit3
import Derived.Deep.LoopGhost
import Derived.Deep.QuietTactic
import Derived.BigQuiet
import Derived.WideLaws
import Derived.Deep.DeepCutAuto
import Derived.Deep.CutBlock
import Derived.Deep.RegionHeld3
import Derived.Laws.Rows
import Derived.Lib.AppendStr
import Derived.ArgAppend
import Derived.Laws.IdiomCopy
import Derived.OrdersHeld
import Derived.Laws.BitsLemmas
import Derived.RowKit
import Derived.Test.YtjhdnapgdajllaaDoorWWords
import Derived.Test.YtjhdnapgdajllaaDoorWLast
import Derived.Test.YtjhdnapgdajllaaDoorWTab
import Derived.Test.YtjhdnapgdajllaaDoorWFour
import Derived.Test.YtjhdnapgdajllaaDoorWQPut
import Derived.Test.YtjhdnapgdajllaaDoorWApart
import Derived.Test.YtjhdnapgdajllaaDoorWArr
import Derived.Test.YtjhdnapgdajllaaDoorWZeros
import Derived.Test.YtjhdnapgdajllaaDoorWFoot
import Derived.Test.YtjhdnapgdajllaaDoorWKept
import Derived.Test.YtjhdnapgdajllaaDoorWShare
import Derived.Test.YtjhdnapgdajllaaDoorWN
import Derived.Test.YtjhdnapgdajllaaDoorWFootNe
import Derived.Test.YtjhdnapgdajllaaDoorWAt
import Derived.Test.YtjhdnapgdajllaaDoorWEqStruct
import Derived.Test.YtjhdnapgdajllaaDoorWRepsOne
import Derived.Test.YtjhdnapgdajllaaDoorWInv
import Derived.Test.YtjhdnapgdajllaaDoorWInvWords
import Derived.Test.YtjhdnapgdajllaaDoorWGuard
import Derived.Test.YtjhdnapgdajllaaDoorWNEv
import Derived.Test.YtjhdnapgdajllaaDoorWMore
import Derived.Test.YtjhdnapgdajllaaDoorSetDx0
namespace Go.Proofs.YtjhdnapgdajllaaDoor.SetDecW
open Go.RowKit Go.Proofs.YtjhdnapgdajllaaDoorW.PrintWords Go.Proofs.YtjhdnapgdajllaaDoorW.PrintLast Go.Proofs.YtjhdnapgdajllaaDoorW.PrintMore
attribute [local go_sem] max2_int min2_int max_two min_two max_three min_three max_four min_four   -- for this text's walks alone
set_option linter.unusedVariables false
set_option linter.unusedSimpArgs false



open _root_.Go.Proofs.YtjhdnapgdajllaaDoor.SetW _root_.Go.Proofs.YtjhdnapgdajllaaDoor.SetEncW
/-- A node at an offset of a block. -/
structure nodeAt (w : World) (NB o b : Nat) (bs : List Nat) (pl pr : Option Addr) (h : Int) : Prop where
  len : bs.length = 32
  base : w.cell? ⟨NB, o, none⟩ = some (.int .u64 (b : Int))
  bits : ∀ j, j < 32 → w.cell? ⟨NB, o + 1 + j, none⟩ = some (.int .u64 ((bs.getD j 0 : Nat) : Int))
  l : w.cell? ⟨NB, o + 33, none⟩ = some (.pointer pl)
  r : w.cell? ⟨NB, o + 34, none⟩ = some (.pointer pr)
  ht : w.cell? ⟨NB, o + 35, none⟩ = some (.int .i64 h)
theorem nodeAt.keep {w w' : World} {NB o b : Nat} {bs : List Nat} {pl pr : Option Addr} {h : Int} (n : nodeAt w NB o b bs pl pr h) (hk : ∀ j, j < 36 → w'.cell? ⟨NB, o + j, none⟩ = w.cell? ⟨NB, o + j, none⟩) : nodeAt w' NB o b bs pl pr h :=
  ⟨n.len, (hk 0 (by omega)).trans n.base, fun j hj => by
    have := hk (1 + j) (by omega)
    rw [← Nat.add_assoc] at this
    exact this.trans (n.bits j hj), (hk 33 (by omega)).trans n.l, (hk 34 (by omega)).trans n.r, (hk 35 (by omega)).trans n.ht⟩
/-- Trees of such nodes: the k-th one lies at 36 k. -/
inductive TG where
  | nil
  | node (k b : Nat) (bs : List Nat) (l r : TG) (h : Int)
def pG (NB : Nat) : TG → Option Addr
  | .nil => none
  | .node k _ _ _ _ _ => some ⟨NB, 36 * k, none⟩
def atG (w : World) (NB : Nat) : TG → Prop
  | .nil => True
  | .node k b bs l r h => nodeAt w NB (36 * k) b bs (pG NB l) (pG NB r) h ∧ atG w NB l ∧ atG w NB r
def ksG : TG → List Nat
  | .nil => []
  | .node k _ _ l r _ => k :: (ksG l ++ ksG r)
def szG : TG → Nat
  | .nil => 0
  | .node _ _ _ l r _ => szG l + szG r + 1
def insG (k b : Nat) (bs : List Nat) (h : Int) : TG → TG
  | .nil => .node k b bs .nil .nil h
  | .node k' b' bs' l r h' => if b < b' then .node k' b' bs' (insG k b bs h l) r h' else .node k' b' bs' l (insG k b bs h r) h'
def isNil : TG → Bool
  | .nil => true
  | _ => false
/-- Where a node with that base is hung up. -/
def slotG (b : Nat) : TG → Nat
  | .nil => 0
  | .node k' b' _ l r _ => if b < b' then (if isNil l = true then 36 * k' + 33 else slotG b l) else (if isNil r = true then 36 * k' + 34 else slotG b r)
theorem atG_keep {w w' : World} {NB : Nat} : ∀ t : TG, atG w NB t → (∀ k ∈ ksG t, ∀ j, j < 36 → w'.cell? ⟨NB, 36 * k + j, none⟩ = w.cell? ⟨NB, 36 * k + j, none⟩) → atG w' NB t
  | .nil, _, _ => trivial
  | .node k b bs l r h, ⟨h1, h2, h3⟩, hk => ⟨h1.keep (hk k (by simp [ksG])), atG_keep l h2 (fun x hx => hk x (by simp [ksG, hx])), atG_keep r h3 (fun x hx => hk x (by simp [ksG, hx]))⟩
theorem slotG_mem (b : Nat) : ∀ t : TG, isNil t = false → ∃ k ∈ ksG t, slotG b t = 36 * k + 33 ∨ slotG b t = 36 * k + 34
  | .nil, h => absurd h (by simp [isNil])
  | .node k' b' bs l r h', _ => by
    rw [slotG]
    split
    · split
      · exact ⟨k', by simp [ksG], .inl rfl⟩
      · rename_i hn
        obtain ⟨k, hk, h⟩ := slotG_mem b l (by simpa using hn)
        exact ⟨k, by simp [ksG, hk], h⟩
    · split
      · exact ⟨k', by simp [ksG], .inr rfl⟩
      · rename_i hn
        obtain ⟨k, hk, h⟩ := slotG_mem b r (by simpa using hn)
        exact ⟨k, by simp [ksG, hk], h⟩
theorem slotG_l {b k' b' : Nat} {bs : List Nat} {l r : TG} {h : Int} (c : b < b') (hl : isNil l = false) : slotG b (.node k' b' bs l r h) = slotG b l := by rw [slotG, if_pos c, if_neg (by rw [hl]; simp)]
theorem slotG_r {b k' b' : Nat} {bs : List Nat} {l r : TG} {h : Int} (c : ¬ b < b') (hr : isNil r = false) : slotG b (.node k' b' bs l r h) = slotG b r := by rw [slotG, if_neg c, if_neg (by rw [hr]; simp)]
theorem pG_ins (NB k b : Nat) (bs : List Nat) (h : Int) (t : TG) (hn : isNil t = false) : pG NB (insG k b bs h t) = pG NB t := by
  cases t with
  | nil => exact absurd hn (by simp [isNil])
  | node k' b' bs' l r h' => rw [insG]; split <;> rfl
theorem ksG_ins (k b : Nat) (bs : List Nat) (h : Int) : ∀ t : TG, (ksG (insG k b bs h t)).Perm (k :: ksG t)
  | .nil => List.Perm.refl _
  | .node k' b' bs' l r h' => by
    rw [insG]
    split
    · rw [ksG, ksG]
      refine ((ksG_ins k b bs h l).append_right _).cons k' |>.trans ?_
      rw [List.cons_append]
      exact List.Perm.swap _ _ _
    · rw [ksG, ksG]
      refine ((ksG_ins k b bs h r).append_left _).cons k' |>.trans ?_
      refine (List.perm_middle.cons k').trans ?_
      exact List.Perm.swap _ _ _
theorem szG_ins (k b : Nat) (bs : List Nat) (h : Int) : ∀ t : TG, szG (insG k b bs h t) = szG t + 1
  | .nil => rfl
  | .node k' b' bs' l r h' => by
    rw [insG]
    split
    · rw [szG, szG, szG_ins k b bs h l]; omega
    · rw [szG, szG, szG_ins k b bs h r]; omega
theorem cell_put {w : World} {NB p : Nat} {v x : Value} (hx : w.cell? ⟨NB, p, none⟩ = some x) (q : Nat) : (w.setCell ⟨NB, p, none⟩ v).cell? ⟨NB, q, none⟩ = if q = p then some v else w.cell? ⟨NB, q, none⟩ := by
  split
  · rename_i h
    subst h
    exact World.cell?_setCell_same w _ v hx
  · rename_i h
    exact World.cell?_setCell_other w _ _ _ (fun e => h (congrArg Addr.off e).symm)
theorem atG_put {w : World} {NB k b : Nat} {bs : List Nat} {h : Int} (hnew : nodeAt w NB (36 * k) b bs none none h) : ∀ t : TG, isNil t = false → atG w NB t → k ∉ ksG t → (ksG t).Nodup →
    w.cell? ⟨NB, slotG b t, none⟩ = some (.pointer none) ∧ atG (w.setCell ⟨NB, slotG b t, none⟩ (.pointer (some ⟨NB, 36 * k, none⟩))) NB (insG k b bs h t)
  | .nil, hn, _, _, _ => absurd hn (by simp [isNil])
  | .node k' b' bs' l r h', _, ⟨h1, h2, h3⟩, hk, hnd => by
    obtain ⟨n1, n2⟩ := List.nodup_cons.1 hnd
    obtain ⟨n3, n4, n5⟩ := List.nodup_append.1 n2
    have hkk : k ≠ k' := fun e => hk (by rw [ksG, e]; exact List.mem_cons_self)
    have hkl : k ∉ ksG l := fun e => hk (List.mem_cons_of_mem _ (List.mem_append_left _ e))
    have hkr : k ∉ ksG r := fun e => hk (List.mem_cons_of_mem _ (List.mem_append_right _ e))
    have far : ∀ {p m : Nat} {x v : Value} (_ : w.cell? ⟨NB, p, none⟩ = some x) (_ : ∀ j, j < 36 → 36 * m + j ≠ p) (j : Nat), j < 36 → (w.setCell ⟨NB, p, none⟩ v).cell? ⟨NB, 36 * m + j, none⟩ = w.cell? ⟨NB, 36 * m + j, none⟩ := fun hx hp j hj => by rw [cell_put hx, if_neg (hp j hj)]
    rw [slotG, insG]
    by_cases c : b < b'
    · rw [if_pos c, if_pos c]
      by_cases hl : isNil l = true
      · rw [if_pos hl]
        have e : l = .nil := by cases l with
          | nil => rfl
          | node _ _ _ _ _ _ => exact absurd hl (by simp [isNil])
        subst e
        refine ⟨h1.l, ⟨h1.len, ?_, fun j hj => ?_, ?_, ?_, ?_⟩, ⟨hnew.keep (far h1.l (fun j hj => by omega)), trivial, trivial⟩, atG_keep r h3 (fun m hm j hj => far h1.l (fun j hj => by have : m ≠ k' := fun e => n1 (by rw [← e]; exact List.mem_append_right _ hm); omega) j hj)⟩
        · rw [cell_put h1.l, if_neg (by omega)]; exact h1.base
        · rw [cell_put h1.l, if_neg (by omega)]; exact h1.bits j hj
        · rw [cell_put h1.l, if_pos rfl]; rfl
        · rw [cell_put h1.l, if_neg (by omega)]; exact h1.r
        · rw [cell_put h1.l, if_neg (by omega)]; exact h1.ht
      · rw [if_neg hl]
        have hl' : isNil l = false := by simpa using hl
        obtain ⟨i1, i2⟩ := atG_put hnew l hl' h2 hkl n3
        obtain ⟨m, hm, hs⟩ := slotG_mem b l hl'
        have hmk : m ≠ k' := fun e => n1 (by rw [← e]; exact List.mem_append_left _ hm)
        refine ⟨i1, ?_, i2, atG_keep r h3 (fun x hx j hj => far i1 (fun j hj => by have : m ≠ x := n5 m hm x hx; omega) j hj)⟩
        have := h1.keep (w' := w.setCell ⟨NB, slotG b l, none⟩ (.pointer (some ⟨NB, 36 * k, none⟩))) (far i1 (fun j hj => by omega))
        rw [pG_ins NB k b bs h l hl']
        exact this
    · rw [if_neg c, if_neg c]
      by_cases hr : isNil r = true
      · rw [if_pos hr]
        have e : r = .nil := by cases r with
          | nil => rfl
          | node _ _ _ _ _ _ => exact absurd hr (by simp [isNil])
        subst e
        refine ⟨h1.r, ⟨h1.len, ?_, fun j hj => ?_, ?_, ?_, ?_⟩, atG_keep l h2 (fun m hm j hj => far h1.r (fun j hj => by have : m ≠ k' := fun e => n1 (by rw [← e]; exact List.mem_append_left _ hm); omega) j hj), ⟨hnew.keep (far h1.r (fun j hj => by omega)), trivial, trivial⟩⟩
        · rw [cell_put h1.r, if_neg (by omega)]; exact h1.base
        · rw [cell_put h1.r, if_neg (by omega)]; exact h1.bits j hj
        · rw [cell_put h1.r, if_neg (by omega)]; exact h1.l
        · rw [cell_put h1.r, if_pos rfl]; rfl
        · rw [cell_put h1.r, if_neg (by omega)]; exact h1.ht
      · rw [if_neg hr]
        have hr' : isNil r = false := by simpa using hr
        obtain ⟨i1, i2⟩ := atG_put hnew r hr' h3 hkr n4
        obtain ⟨m, hm, hs⟩ := slotG_mem b r hr'
        have hmk : m ≠ k' := fun e => n1 (by rw [← e]; exact List.mem_append_right _ hm)
        refine ⟨i1, ?_, atG_keep l h2 (fun x hx j hj => far i1 (fun j hj => by have : x ≠ m := n5 x hx m hm; omega) j hj), i2⟩
        have := h1.keep (w' := w.setCell ⟨NB, slotG b r, none⟩ (.pointer (some ⟨NB, 36 * k, none⟩))) (far i1 (fun j hj => by omega))
        rw [pG_ins NB k b bs h r hr']
        exact this
/-- Nothing has changed but the tape. -/
structure Same (w w' : World) : Prop where
  heap : w'.heap = w.heap
  os : w'.os = w.os
  tape : w'.tape = w.tape
  output : w'.output = w.output
theorem Same.refl (w : World) : Same w w := ⟨rfl, rfl, rfl, rfl⟩
theorem Same.trans {a b c : World} (h : Same a b) (k : Same b c) : Same a c := ⟨k.heap.trans h.heap, k.os.trans h.os, k.tape.trans h.tape, k.output.trans h.output⟩
theorem Same.cell {w w' : World} (h : Same w w') (a : Addr) : w'.cell? a = w.cell? a := by
  unfold World.cell?
  rw [h.heap]
theorem Same.drew (w : World) : Same w w.drew := ⟨rfl, rfl, rfl, rfl⟩
theorem Same_drewN : ∀ (n : Nat) (w : World), Same w (w.drewN n)
  | 0, w => Same.refl w
  | n + 1, w => (Same_drewN n w).trans (Same.drew _)
theorem Same.chg {w w' : World} (h : Same w w') : Chg [] w w' := ⟨h.os, h.tape, h.output, by rw [h.heap]; exact Nat.le_refl _, fun k _ _ => by rw [h.heap]⟩
theorem Same.at {w w' : World} (h : Same w w') {NB : Nat} {t : TG} (ht : atG w NB t) : atG w' NB t := atG_keep t ht (fun _ _ _ _ => h.cell _)
theorem put_end {W1 wr : World} {NB SS T k b n1 : Nat} {bs : List Nat} {h : Int} {t : TG} {sz : Int} {cs : Array Value} (hs : Same W1 wr) (hS1 : W1.heap[SS]? = some (.cells (ssC (.pointer (pG NB t)) sz n1 false) 84 (0, 0))) (hN1 : W1.heap[NB]? = some (.cells cs T (0, 0))) (a1 : atG W1 NB t) (new1 : nodeAt W1 NB (36 * k) b bs none none h) (hk : k ∉ ksG t) (hnd : (ksG t).Nodup) (hne : NB ≠ SS) (ht : isNil t = false) :
    atG (wr.setCell ⟨NB, slotG b t, none⟩ (.pointer (some ⟨NB, 36 * k, none⟩))) NB (insG k b bs h t) ∧ (wr.setCell ⟨NB, slotG b t, none⟩ (.pointer (some ⟨NB, 36 * k, none⟩))).heap[SS]? = some (.cells (ssC (.pointer (pG NB (insG k b bs h t))) sz n1 false) 84 (0, 0)) ∧ Chg [NB] W1 (wr.setCell ⟨NB, slotG b t, none⟩ (.pointer (some ⟨NB, 36 * k, none⟩))) ∧
      (∀ q, (∀ m ∈ ksG t, q ≠ 36 * m + 33 ∧ q ≠ 36 * m + 34) → (wr.setCell ⟨NB, slotG b t, none⟩ (.pointer (some ⟨NB, 36 * k, none⟩))).cell? ⟨NB, q, none⟩ = W1.cell? ⟨NB, q, none⟩) ∧ ∃ cs, (wr.setCell ⟨NB, slotG b t, none⟩ (.pointer (some ⟨NB, 36 * k, none⟩))).heap[NB]? = some (.cells cs T (0, 0)) := by
  have ar : atG wr NB t := hs.at a1
  have nr : nodeAt wr NB (36 * k) b bs none none h := new1.keep (fun _ _ => hs.cell _)
  obtain ⟨p1, p2⟩ := atG_put nr t ht ar hk hnd
  have hNr : wr.heap[NB]? = some (.cells cs T (0, 0)) := by rw [hs.heap]; exact hN1
  have e := setCell_eq_setRow wr NB (slotG b t) _ T (0, 0) (.pointer (some ⟨NB, 36 * k, none⟩)) hNr
  have ch : Chg [NB] wr (wr.setCell ⟨NB, slotG b t, none⟩ (.pointer (some ⟨NB, 36 * k, none⟩))) := by rw [e]; exact Chg.row _ _ _
  refine ⟨p2, ?_, hs.chg.trans ch (fun x h => absurd h (by simp)) (fun x h _ => h), fun q hq => ?_, _, by rw [e]; exact setRow_heap _ _ _ _ _ _ hNr⟩
  · rw [pG_ins NB k b bs h t ht, ch.keep SS (by rw [hs.heap]; exact (Array.getElem?_eq_some_iff.1 hS1).1) (by simp; exact fun e => hne e.symm), hs.heap]
    exact hS1
  · obtain ⟨m, hm, hsm⟩ := slotG_mem b t ht
    rw [cell_put p1, if_neg (by have := hq m hm; omega), hs.cell]
set_option maxHeartbeats 16000000 in
set_option maxRecDepth 100000 in
theorem insertNode_calls (NB SS T k b : Nat) (bs : List Nat) (h : Int) (t : TG) (sz : Int) (n0 : Nat) (w : World) (hS : w.heap[SS]? = some (.cells (ssC (.pointer (pG NB t)) sz n0 false) 84 (0, 0))) (hN : ∃ cs, w.heap[NB]? = some (.cells cs T (0, 0))) (hT : T ≠ 84)
    (ha : atG w NB t) (hnew : nodeAt w NB (36 * k) b bs none none h) (hk : k ∉ ksG t) (hnd : (ksG t).Nodup) (hn : n0 ≤ 1000000) :
    Calls Tryd.prog 78 #[.pointer (some ⟨SS, 0, none⟩), .pointer (some ⟨NB, 36 * k, none⟩)] w fun e w' => e = .returned (.tuple #[]) ∧ atG w' NB (insG k b bs h t) ∧ w'.heap[SS]? = some (.cells (ssC (.pointer (pG NB (insG k b bs h t))) sz ((n0 + 1 : Nat) : Int) false) 84 (0, 0)) ∧ Chg [SS, NB] w w' ∧
      (∀ q, (∀ m ∈ ksG t, q ≠ 36 * m + 33 ∧ q ≠ 36 * m + 34) → w'.cell? ⟨NB, q, none⟩ = w.cell? ⟨NB, q, none⟩) ∧ ∃ cs, w'.heap[NB]? = some (.cells cs T (0, 0)) := by
  obtain ⟨cs, hN⟩ := hN
  have hne : NB ≠ SS := ne_type hN hS hT
  have c2 : w.cell? ⟨SS, 2, none⟩ = some (.int .i64 (n0 : Int)) := cell_of_row w SS 2 _ _ _ hS
  have f2 : w.frozen? ⟨SS, 2, none⟩ = false := by simp [World.frozen?, hS]
  have c0 : w.cell? ⟨SS, 0, none⟩ = some (.pointer (pG NB t)) := cell_of_row w SS 0 _ _ _ hS
  obtain ⟨n1, hn1⟩ : ∃ n1, n1 = n0 + 1 := ⟨_, rfl⟩
  have w1 : wrap64 ((n0 : Int) + 1) = (n1 : Int) := Road.w64 _ _ (by omega) (by omega) (by omega)
  have E1 : w.setCell ⟨SS, 2, none⟩ (.int .i64 (n1 : Int)) = w.setRow SS (ssC (.pointer (pG NB t)) sz n1 false) := setCell_eq_setRow w SS 2 _ 84 (0, 0) (.int .i64 (n1 : Int)) hS
  obtain ⟨W1, hW1⟩ : ∃ W1, W1 = w.setRow SS (ssC (.pointer (pG NB t)) sz n1 false) := ⟨_, rfl⟩
  rw [← hW1] at E1
  have hS1 : W1.heap[SS]? = some (.cells (ssC (.pointer (pG NB t)) sz n1 false) 84 (0, 0)) := by rw [hW1]; exact setRow_heap w SS _ _ _ _ hS
  have ch1 : Chg [SS] w W1 := by rw [hW1]; exact Chg.row _ _ _
  have far1 : ∀ q, W1.cell? ⟨NB, q, none⟩ = w.cell? ⟨NB, q, none⟩ := fun q => cell_of_heap (ch1.keep NB (Array.getElem?_eq_some_iff.1 hN).1 (by simp; exact hne)) q
  have hN1 : W1.heap[NB]? = some (.cells cs T (0, 0)) := (ch1.keep NB (Array.getElem?_eq_some_iff.1 hN).1 (by simp; exact hne)).trans hN
  have a1 : atG W1 NB t := atG_keep t ha (fun _ _ _ _ => far1 _)
  have new1 : nodeAt W1 NB (36 * k) b bs none none h := hnew.keep (fun _ _ => far1 _)
  have c01 : W1.cell? ⟨SS, 0, none⟩ = some (.pointer (pG NB t)) := cell_of_row W1 SS 0 _ _ _ hS1
  have f01 : W1.frozen? ⟨SS, 0, none⟩ = false := by simp [World.frozen?, hS1]
  rw [← hn1]
  have HH := Aside0.mk (And.intro hS1 (And.intro ch1 (And.intro far1 (And.intro hN1 (And.intro a1 (And.intro new1 (And.intro hk (And.intro hnd hne))))))))
  clear hS hN hT ha hnew hk hnd hn hn1 hW1 hS1 ch1 far1 hN1 a1 new1 hne c0
  cases ht : isNil t with
  | true =>
    have e : t = .nil := by cases t with
      | nil => rfl
      | node _ _ _ _ _ _ => exact absurd ht (by simp [isNil])
    subst e
    replace c01 : W1.cell? ⟨SS, 0, none⟩ = some (.pointer none) := c01
    clear ht
    go_enter Tryd.func78, Tryd.ntmps78
    go_wp2_with fail
    refine bodyPost_ret (results_none rfl _ _ _) rfl ?_
    obtain ⟨hS1, ch1, far1, hN1, a1, new1, hk, hnd, hne⟩ := HH.out
    rw [setCell_eq_setRow W1 SS 0 _ 84 (0, 0) (.pointer (some ⟨NB, 36 * k, none⟩)) hS1]
    obtain ⟨W2, hW2⟩ : ∃ W2, W2 = W1.setRow SS ((ssC (.pointer (pG NB .nil)) sz n1 false).setIfInBounds 0 (.pointer (some ⟨NB, 36 * k, none⟩))) := ⟨_, rfl⟩
    rw [← hW2]
    have ch2 : Chg [SS] W1 W2 := by rw [hW2]; exact Chg.row _ _ _
    have far2 : ∀ q, W2.cell? ⟨NB, q, none⟩ = W1.cell? ⟨NB, q, none⟩ := fun q => cell_of_heap (ch2.keep NB (Array.getElem?_eq_some_iff.1 hN1).1 (by simp; exact hne)) q
    refine ⟨rfl, ⟨new1.keep (fun _ _ => far2 _), trivial, trivial⟩, ?_, ?_, fun q _ => (far2 q).trans (far1 q), cs, ?_⟩
    · rw [hW2]; exact setRow_heap W1 SS _ _ _ _ hS1
    · exact (ch1.trans ch2 (fun x h => h) (fun x h _ => h)).mono (fun x hx => by rw [List.mem_singleton.1 hx]; simp)
    · exact (ch2.keep NB (Array.getElem?_eq_some_iff.1 hN1).1 (by simp; exact hne)).trans hN1
  | false =>
    obtain ⟨k0, hk0⟩ : ∃ k0, pG NB t = some ⟨NB, 36 * k0, none⟩ := by cases t with
      | nil => exact absurd ht (by simp [isNil])
      | node k0 _ _ _ _ _ => exact ⟨k0, rfl⟩
    have c02 := c01
    rw [hk0] at c02
    have HK0 := Aside0.mk (And.intro ht hk0)
    clear c01 ht
    go_enter Tryd.func78, Tryd.ntmps78
    go_wp2_with fail
    rw [← hk0]
    clear hk0
    go_loopg [4] (szG t + 1) (fun kq v4 wx => ∃ u : TG, v4 = .pointer (pG NB u) ∧ Aside0 (isNil u = false ∧ slotG b u = slotG b t ∧ atG W1 NB u ∧ szG u < kq) ∧ Aside0 (Same W1 wx))
    case atStart => exact ⟨t, rfl, ⟨HK0.out.1, rfl, HH.out.2.2.2.2.1, Nat.lt_succ_self _⟩, ⟨Same.refl _⟩⟩
    case round =>
      obtain ⟨u, rfl, HU, HS⟩ := hrel
      cases gk with
      | zero => exact absurd HU.out.2.2.2 (by omega)
      | succ k1 =>
      cases u with
      | nil => exact absurd HU.out.1 (by simp [isNil])
      | node ku bu bsu l r hu =>
        obtain ⟨_, hsl, ⟨hau, hal, har⟩, hsz⟩ := HU.out
        rw [show pG NB (.node ku bu bsu l r hu) = some ⟨NB, 36 * ku, none⟩ from rfl]
        have cn : wr.cell? ⟨NB, 36 * k, none⟩ = some (.int .u64 (b : Int)) := (HS.out.cell _).trans HH.out.2.2.2.2.2.1.base
        have cb : wr.cell? ⟨NB, 36 * ku, none⟩ = some (.int .u64 (bu : Int)) := (HS.out.cell _).trans hau.base
        have cl : wr.cell? ⟨NB, 36 * ku + 33, none⟩ = some (.pointer (pG NB l)) := (HS.out.cell _).trans hau.l
        have cr : wr.cell? ⟨NB, 36 * ku + 34, none⟩ = some (.pointer (pG NB r)) := (HS.out.cell _).trans hau.r
        have fz : ∀ q, wr.frozen? ⟨NB, q, none⟩ = false := fun q => by
          have : wr.heap[NB]? = some (.cells cs T (0, 0)) := by rw [HS.out.heap]; exact HH.out.2.2.2.1
          simp [World.frozen?, this]
        have HU2 := Aside0.mk (And.intro hsl (And.intro hal (And.intro har hsz)))
        clear hsl hau hal har hsz
        by_cases c : b < bu
        · have c1 : decide ((b : Int) < (bu : Int)) = true := decide_eq_true (by omega)
          have c2 : decide (b < bu) = true := decide_eq_true c
          have HC := Aside0.mk c
          clear c
          cases l with
          | nil =>
            replace cl : wr.cell? ⟨NB, 36 * ku + 33, none⟩ = some (.pointer none) := cl
            go_wp2_with fail
            go_quiet (fail)
            go_wp2_with fail
            refine bodyPost_ret (results_none rfl _ _ _) rfl ?_
            obtain ⟨hS1, ch1, far1, hN1, a1, new1, hk, hnd, hne⟩ := HH.out
            have hs2 := HS.out.trans (Same_drewN nq wr)
            have e : slotG b t = 36 * ku + 33 := by
              rw [← HU2.out.1, slotG, if_pos HC.out]
              rfl
            obtain ⟨p1, p2, p3, p4, p5⟩ := put_end hs2 hS1 hN1 a1 new1 hk hnd hne HK0.out.1
            rw [e] at p1 p2 p3 p4 p5
            exact ⟨rfl, p1, p2, ch1.trans p3 (fun x h => by rw [List.mem_singleton.1 h]; simp) (fun x h _ => by rw [List.mem_singleton.1 h]; simp), fun q hq => (p4 q hq).trans (far1 q), p5⟩
          | node kl bl bsl ll rl hl =>
            replace cl : wr.cell? ⟨NB, 36 * ku + 33, none⟩ = some (.pointer (some ⟨NB, 36 * kl, none⟩)) := cl
            go_wp2_with fail
            go_quiet (fail)
            go_wp2_with fail
            go_roundg k1
            case measure => omega
            case rel =>
              refine ⟨.node kl bl bsl ll rl hl, rfl, ⟨rfl, ?_, HU2.out.2.1, ?_⟩, ⟨HS.out.trans (Same_drewN nq wr)⟩⟩
              · exact (slotG_l HC.out rfl).symm.trans HU2.out.1
              · have := HU2.out.2.2.2
                rw [szG] at this
                omega
        · have c1 : decide ((b : Int) < (bu : Int)) = false := decide_eq_false (by omega)
          have c2 : decide (b < bu) = false := decide_eq_false c
          have HC := Aside0.mk c
          clear c
          cases r with
          | nil =>
            replace cr : wr.cell? ⟨NB, 36 * ku + 34, none⟩ = some (.pointer none) := cr
            go_wp2_with fail
            go_quiet (fail)
            go_wp2_with fail
            refine bodyPost_ret (results_none rfl _ _ _) rfl ?_
            obtain ⟨hS1, ch1, far1, hN1, a1, new1, hk, hnd, hne⟩ := HH.out
            have hs2 := HS.out.trans (Same_drewN nq wr)
            have e : slotG b t = 36 * ku + 34 := by
              rw [← HU2.out.1, slotG, if_neg HC.out]
              rfl
            obtain ⟨p1, p2, p3, p4, p5⟩ := put_end hs2 hS1 hN1 a1 new1 hk hnd hne HK0.out.1
            rw [e] at p1 p2 p3 p4 p5
            exact ⟨rfl, p1, p2, ch1.trans p3 (fun x h => by rw [List.mem_singleton.1 h]; simp) (fun x h _ => by rw [List.mem_singleton.1 h]; simp), fun q hq => (p4 q hq).trans (far1 q), p5⟩
          | node kl bl bsl ll rl hl =>
            replace cr : wr.cell? ⟨NB, 36 * ku + 34, none⟩ = some (.pointer (some ⟨NB, 36 * kl, none⟩)) := cr
            go_wp2_with fail
            go_quiet (fail)
            go_wp2_with fail
            go_roundg k1
            case measure => omega
            case rel =>
              refine ⟨.node kl bl bsl ll rl hl, rfl, ⟨rfl, ?_, HU2.out.2.2.1, ?_⟩, ⟨HS.out.trans (Same_drewN nq wr)⟩⟩
              · exact (slotG_r HC.out rfl).symm.trans HU2.out.1
              · have := HU2.out.2.2.2
                rw [szG] at this
                omega
theorem leZ_leN : ∀ (k v : Nat), v < 256 ^ k → Lib.leZ ((leN k v).map (fun n : Nat => (n : Int))) = (v : Int)
  | 0, v, h => by
    have : v = 0 := by simpa using h
    subst this
    rfl
  | k + 1, v, h => by
    have h2 : v / 256 < 256 ^ k := by
      rw [Nat.pow_succ] at h
      exact Nat.div_lt_of_lt_mul (by rw [Nat.mul_comm]; exact h)
    have e : leN (k + 1) v = v % 256 :: leN k (v / 256) := by
      rw [leN, Lib.leBytes, List.map_cons, Lib.toUInt8_mod]
      rfl
    rw [e, List.map_cons, Lib.leZ, leZ_leN k _ h2]
    omega
/-- That row of bytes stands there. -/
def Has (ys : List Nat) (i : Nat) (l : List Nat) : Prop := ∃ A C, ys = A ++ (l ++ C) ∧ A.length = i
theorem Has.left {ys : List Nat} {i : Nat} {a b : List Nat} (h : Has ys i (a ++ b)) : Has ys i a := by
  obtain ⟨A, C, e, hl⟩ := h
  exact ⟨A, b ++ C, by rw [e]; simp, hl⟩
theorem Has.right {ys : List Nat} {i : Nat} {a b : List Nat} (h : Has ys i (a ++ b)) : Has ys (i + a.length) b := by
  obtain ⟨A, C, e, hl⟩ := h
  exact ⟨A ++ a, C, by rw [e]; simp, by simp [hl]⟩
theorem Has.len {ys : List Nat} {i : Nat} {l : List Nat} (h : Has ys i l) : i + l.length ≤ ys.length := by
  obtain ⟨A, C, e, hl⟩ := h
  rw [e, List.length_append, List.length_append]
  omega
theorem Has.at {ys : List Nat} {i : Nat} {l : List Nat} (h : Has ys i l) (j : Nat) (hj : j < l.length) : ys[i + j]? = some l[j] := by
  obtain ⟨A, C, e, hl⟩ := h
  rw [e, List.getElem?_append_right (by omega), show i + j - A.length = j by omega, List.getElem?_append_left hj, List.getElem?_eq_getElem hj]
theorem Has.flat {α : Type} {ys : List Nat} (f : α → List Nat) (L : Nat) : ∀ (rs : List α) (i : Nat), (∀ r ∈ rs, (f r).length = L) → Has ys i (rs.flatMap f) → ∀ (j : Nat) (r : α), rs[j]? = some r → Has ys (i + L * j) (f r)
  | [], _, _, _, j, r, h => by simp at h
  | a :: rs, i, hL, hh, 0, r, h => by
    have : a = r := by simpa using h
    rw [← this]
    exact hh.left
  | a :: rs, i, hL, hh, j + 1, r, h => by
    have hh2 := hh.right
    rw [hL a List.mem_cons_self] at hh2
    have := Has.flat f L rs (i + L) (fun r hr => hL r (List.mem_cons_of_mem _ hr)) hh2 j r (by simpa using h)
    rw [show i + L * (j + 1) = i + L + L * j by rw [Nat.mul_add]; omega]
    exact this
/-- A row of bytes at the head of a block. -/
def rowP (w : World) (G : Nat) (ys : List Nat) : Prop := ∃ cur, w.heap[G]? = some (.cells cur 5 (0, 0)) ∧ ∀ j (_ : j < ys.length), cur[j]? = some (.int .u8 ((ys.getD j 0 : Nat) : Int))
theorem rowP.lt {w : World} {G : Nat} {ys : List Nat} (h : rowP w G ys) : G < w.heap.size := by
  obtain ⟨cur, h, _⟩ := h
  exact (Array.getElem?_eq_some_iff.1 h).1
theorem rowP.keep {w w' : World} {G : Nat} {ys : List Nat} (h : rowP w G ys) (e : w'.heap[G]? = w.heap[G]?) : rowP w' G ys := by
  obtain ⟨cur, h, k⟩ := h
  exact ⟨cur, e.trans h, k⟩
theorem rowP.ne {w : World} {G y T : Nat} {ys : List Nat} {cs : Array Value} (h : rowP w G ys) (hy : w.heap[y]? = some (.cells cs T (0, 0))) (hT : 5 ≠ T) : G ≠ y := by
  obtain ⟨cur, h, k⟩ := h
  exact ne_type h hy hT
theorem rowP.cell {w : World} {G : Nat} {ys : List Nat} (h : rowP w G ys) (j : Nat) (hj : j < ys.length) : w.cell? ⟨G, j, none⟩ = some (.int .u8 ((ys.getD j 0 : Nat) : Int)) := by
  obtain ⟨cur, h, k⟩ := h
  rw [cell_of_row w G j _ _ _ h]
  exact k j hj
theorem has_cell {w : World} {B i k v : Nat} {ys : List Nat} (hB : rowP w B ys) (h : Has ys i (leN k v)) (j : Nat) (hj : j < ((leN k v).map (fun n : Nat => (n : Int))).length) : w.cell? ((⟨B, i, none⟩ : Addr).add j) = some (.int .u8 (((leN k v).map (fun n : Nat => (n : Int))).getD j 0)) := by
  have hj' : j < (leN k v).length := by simpa using hj
  have hl := h.len
  have e : (⟨B, i, none⟩ : Addr).add j = ⟨B, i + j, none⟩ := by
    rw [Addr.add]
    split
    · rename_i h0
      rw [h0, Nat.add_zero]
    · rfl
  have hx := h.at j hj'
  rw [e, hB.cell (i + j) (by omega), List.getD_eq_getElem?_getD, hx]
  simp [hj']
theorem leN_wf (k v : Nat) : ∀ z ∈ (leN k v).map (fun n : Nat => (n : Int)), (Lit.int .u8 z).wf = true := by
  intro z hz
  obtain ⟨x, hx, rfl⟩ := List.mem_map.1 hz
  have h := leN_byte k v x hx
  have e1 : IntKind.u8.min = 0 := rfl
  have e2 : IntKind.u8.max = 255 := rfl
  simp only [Lit.wf, e1, e2, Bool.and_eq_true, decide_eq_true_eq]
  omega
theorem leN_take (k v : Nat) : ((leN k v).map (fun n : Nat => (n : Int))).take k = (leN k v).map (fun n : Nat => (n : Int)) := List.take_of_length_le (by rw [List.length_map, leN_len]; exact Nat.le_refl _)
theorem get8_calls (B i m c v : Nat) (ys : List Nat) (w : World) (hv : v < 18446744073709551616) (hm : 8 ≤ m) (hB : rowP w B ys) (h : Has ys i (leN 8 v)) :
    Calls Tryd.prog 76 #[.agg #[], .slice (some ⟨B, i, none⟩) m c] w fun e w' => e = .returned (.int .u64 (v : Int)) ∧ Below w.heap.size w w' := by
  have := Tryd.binary_LE_Uint64_z ⟨B, i, none⟩ m c ((leN 8 v).map (fun n : Nat => (n : Int))) w hm (by rw [List.length_map, leN_len]; exact Nat.le_refl _) (has_cell hB h) (leN_wf 8 v)
  rw [leN_take, leZ_leN 8 v hv] at this
  exact this
theorem get4_calls (B i m c v : Nat) (ys : List Nat) (w : World) (hv : v < 4294967296) (hm : 4 ≤ m) (hB : rowP w B ys) (h : Has ys i (leN 4 v)) :
    Calls Tryd.prog 75 #[.agg #[], .slice (some ⟨B, i, none⟩) m c] w fun e w' => e = .returned (.int .u32 (v : Int)) ∧ Below w.heap.size w w' := by
  have := Tryd.binary_LE_Uint32_z ⟨B, i, none⟩ m c ((leN 4 v).map (fun n : Nat => (n : Int))) w hm (by rw [List.length_map, leN_len]; exact Nat.le_refl _) (has_cell hB h) (leN_wf 4 v)
  rw [leN_take, leZ_leN 4 v hv] at this
  exact this
theorem get2_calls (B i m c v : Nat) (ys : List Nat) (w : World) (hv : v < 65536) (hm : 2 ≤ m) (hB : rowP w B ys) (h : Has ys i (leN 2 v)) :
    Calls Tryd.prog 77 #[.agg #[], .slice (some ⟨B, i, none⟩) m c] w fun e w' => e = .returned (.int .u16 (v : Int)) ∧ Below w.heap.size w w' := by
  have := Tryd.binary_LE_Uint16_z ⟨B, i, none⟩ m c ((leN 2 v).map (fun n : Nat => (n : Int))) w hm (by rw [List.length_map, leN_len]; exact Nat.le_refl _) (has_cell hB h) (leN_wf 2 v)
  rw [leN_take, leZ_leN 2 v hv] at this
  exact this
/-- The store while a set's bytes are read: k nodes are hung up, those from m on are still empty. -/
structure DecSt (w : World) (B SS NB : Nat) (ys : List Nat) (t : TG) (n m nn : Nat) (sz : Int) : Prop where
  row : rowP w B ys
  ss : w.heap[SS]? = some (.cells (ssC (.pointer (pG NB t)) sz n false) 84 (0, 0))
  tree : atG w NB t
  fresh : ∀ j, m ≤ j → j < nn → nodeAt w NB (36 * j) 0 (List.replicate 32 0) none none 0
  nb : ∃ cs, w.heap[NB]? = some (.cells cs 88 (0, 0))
  low : ∀ k ∈ ksG t, k < n
  nd : (ksG t).Nodup
theorem DecSt.keep {w w' : World} {B SS NB : Nat} {ys : List Nat} {t : TG} {n m nn : Nat} {sz : Int} (S : DecSt w B SS NB ys t n m nn sz) (h : Below w.heap.size w w') : DecSt w' B SS NB ys t n m nn sz := by
  obtain ⟨cs, hN⟩ := S.nb
  have hN' : w'.heap[NB]? = w.heap[NB]? := h.block NB (Array.getElem?_eq_some_iff.1 hN).1
  have hc : ∀ q, w'.cell? ⟨NB, q, none⟩ = w.cell? ⟨NB, q, none⟩ := fun q => cell_of_heap hN' q
  exact ⟨S.row.keep (h.block B S.row.lt), (h.block SS (Array.getElem?_eq_some_iff.1 S.ss).1).trans S.ss, atG_keep t S.tree (fun _ _ _ _ => hc _), fun j h1 h2 => (S.fresh j h1 h2).keep (fun _ _ => hc _), ⟨cs, hN'.trans hN⟩, S.low, S.nd⟩
theorem nodeAt.below {w w' : World} {NB o b : Nat} {bs : List Nat} {pl pr : Option Addr} {h : Int} (n : nodeAt w NB o b bs pl pr h) (hb : Below w.heap.size w w') (hN : ∃ cs T, w.heap[NB]? = some (.cells cs T (0, 0))) : nodeAt w' NB o b bs pl pr h := by
  obtain ⟨cs, T, hN⟩ := hN
  exact n.keep (fun j _ => cell_of_heap (hb.block NB (Array.getElem?_eq_some_iff.1 hN).1) _)
/-- A cell of the node in hand is written. -/
theorem DecSt.put {w : World} {B SS NB : Nat} {ys : List Nat} {t : TG} {n nn : Nat} {sz : Int} (S : DecSt w B SS NB ys t n (n + 1) nn sz) (o : Nat) (ho : o < 36) (v : Value) :
    DecSt (w.setCell ⟨NB, 36 * n + o, none⟩ v) B SS NB ys t n (n + 1) nn sz ∧ Chg [NB] w (w.setCell ⟨NB, 36 * n + o, none⟩ v) := by
  obtain ⟨cs, hN⟩ := S.nb
  have e := setCell_eq_setRow w NB (36 * n + o) _ 88 (0, 0) v hN
  have n1 : B ≠ NB := S.row.ne hN (by decide)
  have n2 : SS ≠ NB := ne_type S.ss hN (by decide)
  have hc : ∀ q, q ≠ 36 * n + o → (w.setCell ⟨NB, 36 * n + o, none⟩ v).cell? ⟨NB, q, none⟩ = w.cell? ⟨NB, q, none⟩ := fun q hq => World.cell?_setCell_other w _ _ _ (fun e => hq (congrArg Addr.off e).symm)
  have ch : Chg [NB] w (w.setCell ⟨NB, 36 * n + o, none⟩ v) := by rw [e]; exact Chg.row _ _ _
  refine ⟨⟨S.row.keep (ch.keep B S.row.lt (by simp; exact n1)), (ch.keep SS (Array.getElem?_eq_some_iff.1 S.ss).1 (by simp; exact n2)).trans S.ss, atG_keep t S.tree (fun k hk j hj => hc _ (by have := S.low k hk; omega)), fun j h1 h2 => (S.fresh j h1 h2).keep (fun i hi => hc _ (by omega)), ⟨_, by rw [e]; exact setRow_heap _ _ _ _ _ _ hN⟩, S.low, S.nd⟩, ch⟩
theorem node_base {w : World} {NB o b : Nat} {bs : List Nat} {pl pr : Option Addr} {h : Int} (n : nodeAt w NB o b bs pl pr h) (v : Nat) : nodeAt (w.setCell ⟨NB, o, none⟩ (.int .u64 (v : Int))) NB o v bs pl pr h :=
  ⟨n.len, by rw [cell_put n.base, if_pos rfl], fun j hj => by rw [cell_put n.base, if_neg (by omega)]; exact n.bits j hj, by rw [cell_put n.base, if_neg (by omega)]; exact n.l, by rw [cell_put n.base, if_neg (by omega)]; exact n.r, by rw [cell_put n.base, if_neg (by omega)]; exact n.ht⟩
theorem node_bit {w : World} {NB o b : Nat} {bs : List Nat} {pl pr : Option Addr} {h : Int} (n : nodeAt w NB o b bs pl pr h) (i : Nat) (hi : i < 32) (v : Nat) : nodeAt (w.setCell ⟨NB, o + 1 + i, none⟩ (.int .u64 (v : Int))) NB o b (bs.set i v) pl pr h := by
  have hx := n.bits i hi
  refine ⟨by rw [List.length_set]; exact n.len, by rw [cell_put hx, if_neg (by omega)]; exact n.base, fun j hj => ?_, by rw [cell_put hx, if_neg (by omega)]; exact n.l, by rw [cell_put hx, if_neg (by omega)]; exact n.r, by rw [cell_put hx, if_neg (by omega)]; exact n.ht⟩
  rw [cell_put hx]
  by_cases e : j = i
  · rw [if_pos (by omega), e]
    have : i < bs.length := by rw [n.len]; exact hi
    simp [this]
  · rw [if_neg (by omega), n.bits j hj, List.getD_eq_getElem?_getD, List.getD_eq_getElem?_getD, List.getElem?_set_ne (fun q => e q.symm)]
theorem node_ht {w : World} {NB o b : Nat} {bs : List Nat} {pl pr : Option Addr} {h : Int} (n : nodeAt w NB o b bs pl pr h) (v : Int) : nodeAt (w.setCell ⟨NB, o + 35, none⟩ (.int .i64 v)) NB o b bs pl pr v :=
  ⟨n.len, by rw [cell_put n.ht, if_neg (by omega)]; exact n.base, fun j hj => by rw [cell_put n.ht, if_neg (by omega)]; exact n.bits j hj, by rw [cell_put n.ht, if_neg (by omega)]; exact n.l, by rw [cell_put n.ht, if_neg (by omega)]; exact n.r, by rw [cell_put n.ht, if_pos rfl]⟩
/-- A node is hung up. -/
theorem DecSt.next {w w' : World} {B SS NB : Nat} {ys : List Nat} {t : TG} {n nn : Nat} {sz : Int} (S : DecSt w B SS NB ys t n (n + 1) nn sz) {b : Nat} {bs : List Nat} {h : Int}
    (a : atG w' NB (insG n b bs h t)) (s : w'.heap[SS]? = some (.cells (ssC (.pointer (pG NB (insG n b bs h t))) sz ((n + 1 : Nat) : Int) false) 84 (0, 0))) (c : Chg [SS, NB] w w') (f : ∀ q, (∀ m ∈ ksG t, q ≠ 36 * m + 33 ∧ q ≠ 36 * m + 34) → w'.cell? ⟨NB, q, none⟩ = w.cell? ⟨NB, q, none⟩) (hn : ∃ cs, w'.heap[NB]? = some (.cells cs 88 (0, 0))) :
    DecSt w' B SS NB ys (insG n b bs h t) (n + 1) (n + 1) nn sz := by
  obtain ⟨cs, hN⟩ := S.nb
  have n1 : B ≠ NB := S.row.ne hN (by decide)
  have n2 : B ≠ SS := S.row.ne S.ss (by decide)
  refine ⟨S.row.keep (c.keep B S.row.lt (by simp; exact ⟨n2, n1⟩)), s, a, fun j h1 h2 => (S.fresh j h1 h2).keep (fun i hi => f _ (fun m hm => by have := S.low m hm; omega)), hn, fun k hk => ?_, ?_⟩
  · rcases List.mem_cons.1 ((ksG_ins n b bs h t).mem_iff.1 hk) with rfl | hk
    · omega
    · have := S.low k hk
      omega
  · refine (ksG_ins n b bs h t).nodup_iff.2 (List.nodup_cons.2 ⟨fun hk => Nat.lt_irrefl _ (S.low n hk), S.nd⟩)
def zN : Array Value := cellsN 0 (List.replicate 32 0) (.pointer none) (.pointer none) 0
theorem makeN (N : Nat) (hN : N ≤ 1000000) (w : World) : (Instr.makeSlice 114 (.int .i64 (N : Int)) (.int .i64 (N : Int))).run Tryd.prog w = .ok (.slice (some ⟨w.heap.size, 0, none⟩) N N) (w.alloc (.cells (madeCells zN (N * 36)) 88)) := by
  obtain ⟨i0, hi0, hz0⟩ := Option.map_eq_some_iff.1 (show (Tryd.prog.info? 88).map (fun i => (i.zero.map Value.cells, i.size, i.bytes)) = some (some zN, 36, 288) by kernel_rfl)
  have h0 : i0.zero.map Value.cells = some zN := congrArg (fun x => x.1) hz0
  obtain ⟨z, hz, hzc⟩ := Option.map_eq_some_iff.1 h0
  have h1 : i0.size = 36 := congrArg (fun x => x.2.1) hz0
  have h2 : i0.bytes = 288 := congrArg (fun x => x.2.2) hz0
  have := run_make (P := Tryd.prog) w 114 88 i0 z Tryd.underlying114 hi0 hz .i64 .i64 (N : Int) (N : Int) (by omega) (by omega) (by rw [h2]; omega) (by omega)
  rw [this, h1, Int.toNat_natCast, hzc]
theorem made_at {w : World} {NB N : Nat} (h : w.heap[NB]? = some (.cells (madeCells zN (N * 36)) 88 (0, 0))) (j : Nat) (hj : j < N) : nodeAt w NB (36 * j) 0 (List.replicate 32 0) none none 0 := by
  have hl : (List.replicate 32 0).length = 32 := rfl
  have key : ∀ o, o < 36 → ∀ v, zN[o]? = some v → w.cell? ⟨NB, 36 * j + o, none⟩ = some v := fun o ho v hv => by
    rw [cell_of_row w NB (36 * j + o) _ _ _ h, madeCells]
    have hs : zN.size = 36 := cellsN_size hl
    rw [hs]
    have hlt : 36 * j + o < ((Array.range (N * 36)).map (fun x => zN[x % 36]!)).size := by simp; omega
    rw [Array.getElem?_eq_getElem hlt]
    simp only [Array.getElem_map, Array.getElem_range]
    rw [show (36 * j + o) % 36 = o by omega, getElem!_def, hv]
  refine ⟨rfl, key 0 (by omega) _ cellsN_base, fun i hi => ?_, key 33 (by omega) _ (cellsN_at hl 0), key 34 (by omega) _ (cellsN_at hl 1), key 35 (by omega) _ (cellsN_at hl 2)⟩
  have := key (1 + i) (by omega) _ (cellsN_bit hl i hi)
  rw [← Nat.add_assoc] at this
  exact this
/-- What stands behind the head: a node's record. -/
def recOf (r : Nat × List Nat × Nat) : List Nat := recN r.1 r.2.1 (r.2.2 : Int)
theorem w64n (a : Nat) (h : a ≤ 100000000000) : wrap64 (a : Int) = (a : Int) := Road.w64 _ _ (by omega) (by omega) (by omega)
theorem wi64n (a : Nat) (h : a ≤ 100000000000) : IntKind.i64.wrap (a : Int) = (a : Int) := Road.wi64 _ _ (by omega) (by omega) (by omega)
theorem below_drew {w w' : World} (h : Below w.drew.heap.size w.drew w') : Below w.heap.size w w' := below_two (below_cut (pw_below_drewN (Below.refl w.heap.size w) 1) (Nat.le_refl _)) h
theorem w64s (x : Int) (a : Nat) (e : x = (a : Int)) (h : a ≤ 100000000000) : wrap64 x = (a : Int) := by rw [e]; exact w64n a h
def okR (r : Nat × List Nat × Nat) : Prop := r.1 < 18446744073709551616 ∧ r.2.1.length = 32 ∧ (∀ z ∈ r.2.1, z < 18446744073709551616) ∧ r.2.2 < 65536
/-- The tree that the first k records make. -/
def decT (rs : List (Nat × List Nat × Nat)) : Nat → TG
  | 0 => .nil
  | k + 1 => match rs[k]? with
    | some r => insG k r.1 r.2.1 (r.2.2 : Int) (decT rs k)
    | none => decT rs k
theorem slice_i8 (B n c i : Nat) (hi : i ≤ n) (hic : i < c) (W : World) : (Instr.slice 47 (.slice (some ⟨B, 0, none⟩) n c) (some (.int .i64 (i : Int))) none none).run Tryd.prog W = .ok (.slice (some ⟨B, i, none⟩) (n - i) (c - i)) W := by
  have := slice_l8 B 0 n c i hi hic W
  rw [Nat.zero_add] at this
  exact this
theorem DecSt.skip {w : World} {B SS NB : Nat} {ys : List Nat} {t : TG} {n nn : Nat} {sz : Int} (S : DecSt w B SS NB ys t n n nn sz) : DecSt w B SS NB ys t n (n + 1) nn sz := ⟨S.row, S.ss, S.tree, fun j h1 h2 => S.fresh j (by omega) h2, S.nb, S.low, S.nd⟩
theorem DecSt.free {w : World} {B SS NB : Nat} {ys : List Nat} {t : TG} {n m nn : Nat} {sz : Int} (S : DecSt w B SS NB ys t n m nn sz) (q : Nat) : w.frozen? ⟨NB, q, none⟩ = false := by
  obtain ⟨cs, h⟩ := S.nb
  simp [World.frozen?, h]
theorem DecSt.nbx {w : World} {B SS NB : Nat} {ys : List Nat} {t : TG} {n m nn : Nat} {sz : Int} (S : DecSt w B SS NB ys t n m nn sz) : ∃ cs T, w.heap[NB]? = some (.cells cs T (0, 0)) := by
  obtain ⟨cs, h⟩ := S.nb
  exact ⟨cs, _, h⟩
theorem below_chg {b : Nat} {w u v : World} {l : List Nat} (h : Below b w u) (k : Chg l u v) (hb : b ≤ u.heap.size) (hl : ∀ x ∈ l, b ≤ x) : Below b w v := below_two h ⟨k.os, k.tape, k.output, k.size, fun i hi => k.keep i (by omega) (fun hm => by have := hl i hm; omega)⟩
theorem two_alloc (w : World) (x y : Obj) : ((w.alloc x).alloc y).drew.heap[w.heap.size]? = some x ∧ ((w.alloc x).alloc y).drew.heap[w.heap.size + 1]? = some y ∧ Below w.heap.size w ((w.alloc x).alloc y).drew := by
  refine ⟨?_, ?_, pw_below_drewN (below_alloc (below_alloc (Below.refl _ _) _) _) 1⟩
  · show ((w.alloc x).alloc y).heap[w.heap.size]? = some x
    rw [Below.heap_alloc _ _ _ (by simp)]
    exact heap_alloc_new w x
  · show ((w.alloc x).alloc y).heap[w.heap.size + 1]? = some y
    have := heap_alloc_new (w.alloc x) y
    simpa using this
set_option maxHeartbeats 16000000 in
set_option maxRecDepth 100000 in
theorem decode2_calls (B n c sz : Nat) (ys : List Nat) (rs : List (Nat × List Nat × Nat)) (w : World) (hB : rowP w B ys) (hnc : n ≤ c) (hn : 10 + 266 * rs.length ≤ n) (hn2 : n ≤ 100000000) (hsz : sz < 4294967296) (hr : ∀ r ∈ rs, okR r)
    (hh : Has ys 2 (leN 4 rs.length ++ (leN 4 sz ++ rs.flatMap recOf))) :
    Calls Tryd.prog 57 #[.slice (some ⟨B, 0, none⟩) n c] w fun e w' => ∃ SS NB, e = .returned (.tuple #[.pointer (some ⟨SS, 0, none⟩), .int .i64 ((10 + 266 * rs.length : Nat) : Int), .nilIface]) ∧ DecSt w' B SS NB ys (decT rs rs.length) rs.length rs.length rs.length (sz : Int) ∧ Below w.heap.size w w' ∧ w.heap.size ≤ SS ∧ w.heap.size ≤ NB := by
  obtain ⟨nn, hnn⟩ : ∃ nn, nn = rs.length := ⟨_, rfl⟩
  rw [← hnn] at hn hh ⊢
  have h1 : Has ys 2 (leN 4 nn) := hh.left
  have h2 : Has ys 6 (leN 4 sz) := by
    have := hh.right.left
    rw [leN_len] at this
    exact this
  have h3 : Has ys 10 (rs.flatMap recOf) := by
    have := hh.right.right
    rw [leN_len, leN_len] at this
    exact this
  obtain ⟨n2, hn2'⟩ : ∃ n2, n2 = n - 2 := ⟨_, rfl⟩
  obtain ⟨c2, hc2⟩ : ∃ c2, c2 = c - 2 := ⟨_, rfl⟩
  obtain ⟨n6, hn6⟩ : ∃ n6, n6 = n - 6 := ⟨_, rfl⟩
  obtain ⟨c6, hc6⟩ : ∃ c6, c6 = c - 6 := ⟨_, rfl⟩
  have s1 : ∀ W, (Instr.slice 47 (.slice (some ⟨B, 0, none⟩) n c) (some (.int .i64 2)) none none).run Tryd.prog W = .ok (.slice (some ⟨B, 2, none⟩) n2 c2) W := fun W => by
    rw [hn2', hc2]
    exact slice_i8 B n c 2 (by omega) (by omega) W
  have s2 : ∀ W, (Instr.slice 47 (.slice (some ⟨B, 0, none⟩) n c) (some (.int .i64 6)) none none).run Tryd.prog W = .ok (.slice (some ⟨B, 6, none⟩) n6 c6) W := fun W => by
    rw [hn6, hc6]
    exact slice_i8 B n c 6 (by omega) (by omega) W
  have hlt : B < w.heap.size := hB.lt
  obtain ⟨W1, hW1⟩ : ∃ W1, W1 = w.alloc (.cells #[] 94 (0, 0)) := ⟨_, rfl⟩
  have b1 : Below w.heap.size w W1 := by rw [hW1]; exact below_alloc (Below.refl _ _) _
  have z1 : W1.heap.size = w.heap.size + 1 := by rw [hW1]; simp
  have r1 : rowP W1 B ys := hB.keep (b1.block B hlt)
  obtain ⟨LE, hLE⟩ : ∃ LE, LE = w.heap.size := ⟨_, rfl⟩
  have HG1 := Aside0.mk (get4_calls B 2 n2 c2 nn ys W1.drew (by omega) (by omega) r1 h1)
  have HP := Aside0.mk (And.intro hlt (And.intro b1 (And.intro z1 (And.intro r1 (And.intro hLE (And.intro hnc (And.intro hn (And.intro hn2 (And.intro hsz (And.intro hr (And.intro h2 (And.intro h3 (And.intro hnn (And.intro hn6 hc6))))))))))))))
  have q1 : nn ≤ 100000000000 := by omega
  have HW1 := Aside0.mk hW1
  clear hlt b1 z1 r1 hLE hnc hn hn2 hsz hr h1 h2 h3 hnn hh hB hn2' hc2 hn6 hc6 hW1
  have u1 := w64n nn q1
  have u1' := wi64n nn q1
  clear q1
  go_enter Tryd.func57, Tryd.ntmps57
  go_wp2_with fail
  rw [← HW1.out]
  refine start_ (n := 7) (S := fun w' => True) (ds := []) #[false, false, false, false, false, false, false] (by kernel_rfl) rfl rfl trivial (fun hHeld => ?_)
  refine take_ (i := 0) (N := some 15) (v := ?_) (a' := ?_) #[true, false, false, false, false, false, false] rfl rfl (by kernel_rfl) (fun _ _ _ h => h) (Or.inl ⟨by rfl, ?_⟩) hHeld ?_ ?_
  rotate_left
  · intro w' hS'
    have hle := load_le w.heap.size w'
    go_simp
    with_reducible rfl
  rotate_left
  · simp only [Act.put, List.setIfInBounds_toArray, List.set_cons_zero, List.set_cons_succ, i64_w, i32_w]
    rfl
  refine pure_ (i := 1) (N := some 16) (v := ?_) (a' := ?_) #[true, true, false, false, false, false, false] rfl rfl (by kernel_rfl) (fun _ _ _ h => h) (Or.inl ⟨by rfl, ?_⟩) ?_ ?_
  rotate_left
  · intro w'
    go_simp
    with_reducible rfl
  rotate_left
  · simp only [Act.put, List.setIfInBounds_toArray, List.set_cons_zero, List.set_cons_succ, i64_w, i32_w]
    rfl
  refine pure_ (i := 2) (N := some 17) (v := ?_) (a' := ?_) #[true, true, true, false, false, false, false] rfl rfl (by kernel_rfl) (fun _ _ _ h => h) (Or.inl ⟨by rfl, ?_⟩) ?_ ?_
  rotate_left
  · intro w'
    go_simp
    with_reducible rfl
  rotate_left
  · simp only [Act.put, List.setIfInBounds_toArray, List.set_cons_zero, List.set_cons_succ, i64_w, i32_w]
    rfl
  refine pure_ (i := 3) (N := some 18) (v := ?_) (a' := ?_) #[true, true, true, true, false, false, false] rfl rfl (by kernel_rfl) (fun _ _ _ h => h) (Or.inl ⟨by rfl, ?_⟩) ?_ ?_
  rotate_left
  · intro w'
    go_simp
    with_reducible rfl
  rotate_left
  · simp only [Act.put, List.setIfInBounds_toArray, List.set_cons_zero, List.set_cons_succ, i64_w, i32_w]
    rfl
  refine one_ (i := 4) (N := some 19) #[true, true, true, true, true, false, false] rfl rfl (by kernel_rfl) (by decide) (fun K hK => ?_)
  refine goes_ Tryd.func75 (by kernel_rfl) rfl #[.agg #[], .slice (some ⟨B, 2, none⟩) n2 c2] (by rfl) rfl rfl (by simp only [List.map_toArray, List.map_cons, List.map_nil]; rfl) ?_
  refine (HG1.out).mono ?_
  rintro e w4 ⟨rfl, b4⟩
  refine ⟨_, rfl, ?_⟩
  refine hK.out _ _ trivial (fun hHeld => ?_)
  clear hK K
  refine norm_ (a' := ?_) ?_ ?_
  rotate_left
  · show Act.put _ (some 19) _ = _
    simp only [Act.put, List.setIfInBounds_toArray, List.set_cons_zero, List.set_cons_succ, i64_w, i32_w]
    rfl
  refine pure_ (i := 5) (N := some 20) (v := ?_) (a' := ?_) #[true, true, true, true, true, true, false] rfl rfl (by kernel_rfl) (fun _ _ _ h => h) (Or.inl ⟨by rfl, ?_⟩) ?_ ?_
  rotate_left
  · intro w'
    go_simp
    with_reducible rfl
  rotate_left
  · simp only [Act.put, List.setIfInBounds_toArray, List.set_cons_zero, List.set_cons_succ, i64_w, i32_w]
    rfl
  refine pure_ (i := 6) (N := some 7) (v := ?_) (a' := ?_) #[true, true, true, true, true, true, true] rfl rfl (by kernel_rfl) (fun _ _ _ h => h) (Or.inl ⟨by rfl, ?_⟩) ?_ ?_
  rotate_left
  · intro w'
    go_simp
    with_reducible rfl
  rotate_left
  · simp only [Act.put, List.setIfInBounds_toArray, List.set_cons_zero, List.set_cons_succ, i64_w, i32_w]
    rfl
  refine done_ (by kernel_rfl) ?_
  clear u1 u1'
  obtain ⟨hlt, b1, z1, r1, hLE, hnc, hn, hn2, hsz, hr, h2, h3, hnn, hn6, hc6⟩ := HP.out
  have b24 : Below w.heap.size w w4 := below_two b1 (below_cut (below_drew b4) b1.size)
  have r4 : rowP w4 B ys := r1.keep ((b24.block B hlt).trans (b1.block B hlt).symm)
  have HG4 := Aside0.mk (get4_calls B 6 n6 c6 sz ys w4.drew hsz (by omega) r4 h2)
  have q2 : sz ≤ 100000000000 := by omega
  have H4 := Aside0.mk (And.intro b24 r4)
  clear hlt b1 z1 r1 hLE hnc hn hn2 hsz hr h2 h3 hnn hn6 hc6 b24 r4 b4 HG1
  have u2 := w64n sz q2
  have u2' := wi64n sz q2
  clear q2
  have v1 : wrap64 6 = 6 := w64n 6 (by decide)
  have v1' : IntKind.i64.wrap 6 = 6 := wi64n 6 (by decide)
  go_wp2_with fail
  refine start_ (n := 8) (S := fun w' => True) (ds := []) #[false, false, false, false, false, false, false, false] (by kernel_rfl) rfl rfl trivial (fun hHeld => ?_)
  refine take_ (i := 0) (N := some 21) (v := ?_) (a' := ?_) #[true, false, false, false, false, false, false, false] rfl rfl (by kernel_rfl) (fun _ _ _ h => h) (Or.inl ⟨by rfl, ?_⟩) hHeld ?_ ?_
  rotate_left
  · intro w' hS'
    have hle := load_le w.heap.size w'
    go_simp
    with_reducible rfl
  rotate_left
  · simp only [Act.put, List.setIfInBounds_toArray, List.set_cons_zero, List.set_cons_succ, i64_w, i32_w]
    rfl
  refine pure_ (i := 1) (N := some 22) (v := ?_) (a' := ?_) #[true, true, false, false, false, false, false, false] rfl rfl (by kernel_rfl) (fun _ _ _ h => h) (Or.inl ⟨by rfl, ?_⟩) ?_ ?_
  rotate_left
  · intro w'
    go_simp
    with_reducible rfl
  rotate_left
  · simp only [Act.put, List.setIfInBounds_toArray, List.set_cons_zero, List.set_cons_succ, i64_w, i32_w]
    rfl
  refine pure_ (i := 2) (N := some 23) (v := ?_) (a' := ?_) #[true, true, true, false, false, false, false, false] rfl rfl (by kernel_rfl) (fun _ _ _ h => h) (Or.inl ⟨by rfl, ?_⟩) ?_ ?_
  rotate_left
  · intro w'
    go_simp
    with_reducible rfl
  rotate_left
  · simp only [Act.put, List.setIfInBounds_toArray, List.set_cons_zero, List.set_cons_succ, i64_w, i32_w]
    rfl
  refine pure_ (i := 3) (N := some 24) (v := ?_) (a' := ?_) #[true, true, true, true, false, false, false, false] rfl rfl (by kernel_rfl) (fun _ _ _ h => h) (Or.inl ⟨by rfl, ?_⟩) ?_ ?_
  rotate_left
  · intro w'
    go_simp
    with_reducible rfl
  rotate_left
  · simp only [Act.put, List.setIfInBounds_toArray, List.set_cons_zero, List.set_cons_succ, i64_w, i32_w]
    rfl
  refine pure_ (i := 4) (N := some 25) (v := ?_) (a' := ?_) #[true, true, true, true, true, false, false, false] rfl rfl (by kernel_rfl) (fun _ _ _ h => h) (Or.inl ⟨by rfl, ?_⟩) ?_ ?_
  rotate_left
  · intro w'
    go_simp
    with_reducible rfl
  rotate_left
  · simp only [Act.put, List.setIfInBounds_toArray, List.set_cons_zero, List.set_cons_succ, i64_w, i32_w]
    rfl
  refine one_ (i := 5) (N := some 26) #[true, true, true, true, true, true, false, false] rfl rfl (by kernel_rfl) (by decide) (fun K hK => ?_)
  refine goes_ Tryd.func75 (by kernel_rfl) rfl #[.agg #[], .slice (some ⟨B, 6, none⟩) n6 c6] (by rfl) rfl rfl (by simp only [List.map_toArray, List.map_cons, List.map_nil]; rfl) ?_
  refine (HG4.out).mono ?_
  rintro e w5 ⟨rfl, b5⟩
  refine ⟨_, rfl, ?_⟩
  refine hK.out _ _ trivial (fun hHeld => ?_)
  clear hK K
  refine norm_ (a' := ?_) ?_ ?_
  rotate_left
  · show Act.put _ (some 26) _ = _
    simp only [Act.put, List.setIfInBounds_toArray, List.set_cons_zero, List.set_cons_succ, i64_w, i32_w]
    rfl
  refine pure_ (i := 6) (N := some 27) (v := ?_) (a' := ?_) #[true, true, true, true, true, true, true, false] rfl rfl (by kernel_rfl) (fun _ _ _ h => h) (Or.inl ⟨by rfl, ?_⟩) ?_ ?_
  rotate_left
  · intro w'
    go_simp
    with_reducible rfl
  rotate_left
  · simp only [Act.put, List.setIfInBounds_toArray, List.set_cons_zero, List.set_cons_succ, i64_w, i32_w]
    rfl
  refine pure_ (i := 7) (N := some 8) (v := ?_) (a' := ?_) #[true, true, true, true, true, true, true, true] rfl rfl (by kernel_rfl) (fun _ _ _ h => h) (Or.inl ⟨by rfl, ?_⟩) ?_ ?_
  rotate_left
  · intro w'
    go_simp
    with_reducible rfl
  rotate_left
  · simp only [Act.put, List.setIfInBounds_toArray, List.set_cons_zero, List.set_cons_succ, i64_w, i32_w]
    rfl
  refine done_ (by kernel_rfl) ?_
  clear u2 u2' v1 v1'
  obtain ⟨hlt, b1, z1, r1, hLE, hnc, hn, hn2, hsz, hr, h2, h3, hnn, hn6, hc6⟩ := HP.out
  obtain ⟨b24, r4⟩ := H4.out
  have b25 : Below w.heap.size w w5 := below_two b24 (below_cut (below_drew b5) b24.size)
  have r5 : rowP w5 B ys := r4.keep ((b25.block B hlt).trans (b24.block B hlt).symm)
  obtain ⟨n10, hn10⟩ : ∃ n10, n10 = n - 10 := ⟨_, rfl⟩
  have e3 : (n : Int) - 10 = (n10 : Int) := by omega
  have q3 : n10 ≤ 100000000000 := by omega
  obtain ⟨n11, hn11⟩ : ∃ n11, n11 = n10 / 266 := ⟨_, rfl⟩
  have e4 : (n10 : Int) / 266 = (n11 : Int) := by omega
  have q4 : n11 ≤ 100000000000 := by omega
  have d1 : decide ((nn : Int) < 0) = false := decide_eq_false (by omega)
  have d2 : ¬ ((nn : Int) < 0) := by omega
  have d3 : decide (n11 < nn) = false := decide_eq_false (by omega)
  have d4 : ¬ (n11 < nn) := by omega
  have d5 := eq_true (show nn ≤ n11 by omega)
  have qn : nn ≤ 1000000 := by omega
  have H5 := Aside0.mk (And.intro b25 r5)
  clear hlt b1 z1 r1 hLE hnc hn hn2 hsz hr h2 h3 hnn hn6 hc6 b24 r4 H4 b25 r5 b5 hn10 hn11
  have v3 := w64s _ _ e3 q3
  have v4 := w64s _ _ e4 q4
  clear e3 q3 e4 q4
  have mk := makeN nn qn
  go_upto_region 8 with fail
  go_cut [9, 10] from 14 (fun v9 v10 wx => ∃ SS NB, v9 = .pointer (some ⟨SS, 0, none⟩) ∧ v10 = .slice (some ⟨NB, 0, none⟩) nn nn ∧ Aside0 (wx.heap[SS]? = some (.cells (ssC (.pointer none) (sz : Int) 0 false) 84 (0, 0)) ∧ wx.heap[NB]? = some (.cells (madeCells zN (nn * 36)) 88 (0, 0)) ∧ Below w5.heap.size w5 wx ∧ w5.heap.size ≤ SS ∧ w5.heap.size ≤ NB))
  case first =>
    go_region_with (fail)
    all_goals (go_wp2_with fail)
    all_goals go_meet
    · exact ⟨_, _, rfl, rfl, ⟨(two_alloc _ _ _).2.1, (two_alloc _ _ _).1, (two_alloc _ _ _).2.2, Nat.le_succ _, Nat.le_refl _⟩⟩
    · exact ⟨_, _, rfl, rfl, ⟨(two_alloc _ _ _).1, (two_alloc _ _ _).2.1, (two_alloc _ _ _).2.2, Nat.le_refl _, Nat.le_succ _⟩⟩
    · exact ⟨_, _, rfl, rfl, ⟨(two_alloc _ _ _).1, (two_alloc _ _ _).2.1, (two_alloc _ _ _).2.2, Nat.le_refl _, Nat.le_succ _⟩⟩
  case rest =>
    obtain ⟨SS, NB, rfl, rfl, HC⟩ := hcut
    obtain ⟨b25, r5⟩ := H5.out
    obtain ⟨hS, hN, b5c, hs1, hs2⟩ := HC.out
    obtain ⟨hlt, b1, z1, r1, hLE, hnc, hn, hn2, hsz, hr, h2, h3, hnn, hn6, hc6⟩ := HP.out
    have b2c : Below w.heap.size w wc := below_two b25 (below_cut b5c b25.size)
    have rc : rowP wc B ys := r5.keep ((b2c.block B hlt).trans (b25.block B hlt).symm)
    have sz5 : w.heap.size ≤ w5.heap.size := b25.size
    have D0 : DecSt wc B SS NB ys (decT rs 0) 0 0 nn (sz : Int) := ⟨rc, hS, trivial, fun j _ hj => made_at hN j hj, ⟨_, hN⟩, fun k hk => absurd hk (by simp [decT, ksG]), List.Pairwise.nil⟩
    have H6 := Aside0.mk (And.intro D0 (And.intro b2c (And.intro (show w.heap.size ≤ SS by omega) (show w.heap.size ≤ NB by omega))))
    clear b25 r5 hS hN b5c hs1 hs2 hlt b1 z1 r1 hLE hnc hn hn2 hsz hr h2 h3 hnn hn6 hc6 b2c rc sz5 D0 HC H5 mk d1 d2 d3 d4 d5 qn v3 v4 s1 s2 HG4
    go_wp2_with fail
    go_loopw [6, 11] (fun v6 v11 wx => ∃ k p : Nat, v6 = .int .i64 (p : Int) ∧ v11 = .int .i64 (k : Int) ∧ Aside0 (p = 10 + 266 * k ∧ k ≤ nn) ∧ Aside0 (DecSt wx B SS NB ys (decT rs k) k k nn (sz : Int) ∧ Below w.heap.size w wx)) (fun _ v11 _ => Road.leftOf nn v11)
    case atStart => exact ⟨0, 10, rfl, rfl, ⟨rfl, Nat.zero_le _⟩, ⟨H6.out.1, H6.out.2.1⟩⟩
    case round =>
      obtain ⟨k, p, rfl, rfl, HK, HX⟩ := hrel
      obtain ⟨hp, hkn⟩ := HK.out
      rcases Nat.lt_or_ge k nn with hk | hk
      · have k1 := eq_true (show (k : Int) < (nn : Int) by omega)
        have k2 := eq_true hk
        obtain ⟨hlt, b1, z1, r1, hLE, hnc, hn, hn2, hsz, hr, h2, h3, hnn, hn6, hc6⟩ := HP.out
        obtain ⟨⟨b, bs, h⟩, hrk⟩ : ∃ r, rs[k]? = some r := ⟨_, List.getElem?_eq_getElem (by omega)⟩
        have hok := hr _ (List.mem_of_getElem? hrk)
        have hlen : ∀ r ∈ rs, (recOf r).length = 266 := fun r h => recN_len (hr r h).2.1
        have hrec : Has ys p (recN b bs (h : Int)) := by rw [hp]; exact Has.flat recOf 266 rs 10 hlen h3 k (b, bs, h) hrk
        obtain ⟨m3, hm3⟩ : ∃ m3, m3 = n - p := ⟨_, rfl⟩
        obtain ⟨m4, hm4⟩ : ∃ m4, m4 = c - p := ⟨_, rfl⟩
        have s3 : ∀ W, (Instr.slice 47 (.slice (some ⟨B, 0, none⟩) n c) (some (.int .i64 (p : Int))) none none).run Tryd.prog W = .ok (.slice (some ⟨B, p, none⟩) m3 m4) W := fun W => by
          rw [hm3, hm4]
          exact slice_i8 B n c p (by omega) (by omega) W
        have HG5 := Aside0.mk (get8_calls B p m3 m4 b ys wr.drew hok.1 (by omega) HX.out.1.row hrec.left)
        obtain ⟨o, ho⟩ : ∃ o, o = k * 36 := ⟨_, rfl⟩
        obtain ⟨q0, hq0⟩ : ∃ q0, q0 = p + 8 := ⟨_, rfl⟩
        have e6 : (p : Int) + 8 = (q0 : Int) := by omega
        have q6 : q0 ≤ 100000000000 := by omega
        have HO := Aside0.mk ho
        have HR := Aside0.mk (And.intro hrk (And.intro hok (And.intro hrec (And.intro hk (And.intro hm3 (And.intro hm4 hq0))))))
        clear hlt b1 z1 r1 hLE hnc hn hn2 hsz hr h2 h3 hnn hn6 hc6 hp hkn hrk hok hlen hrec hm3 hm4 hk ho hq0
        go_wp2_with fail
        rw [← HO.out]
        refine start_ (n := 9) (S := fun w' => True) (ds := [8]) #[false, false, false, false, false, false, false, false, false] (by kernel_rfl) rfl rfl trivial (fun hHeld => ?_)
        refine pure_ (i := 0) (N := some 53) (v := ?_) (a' := ?_) #[true, false, false, false, false, false, false, false, false] rfl rfl (by kernel_rfl) (fun _ _ _ h => h) (Or.inl ⟨by rfl, ?_⟩) ?_ ?_
        rotate_left
        · intro w'
          go_simp
          with_reducible rfl
        rotate_left
        · simp only [Act.put, List.setIfInBounds_toArray, List.set_cons_zero, List.set_cons_succ, i64_w, i32_w]
          rfl
        refine take_ (i := 1) (N := some 54) (v := ?_) (a' := ?_) #[true, true, false, false, false, false, false, false, false] rfl rfl (by kernel_rfl) (fun _ _ _ h => h) (Or.inl ⟨by rfl, ?_⟩) hHeld ?_ ?_
        rotate_left
        · intro w' hS'
          have hle := load_le w.heap.size w'
          go_simp
          with_reducible rfl
        rotate_left
        · simp only [Act.put, List.setIfInBounds_toArray, List.set_cons_zero, List.set_cons_succ, i64_w, i32_w]
          rfl
        refine pure_ (i := 2) (N := some 55) (v := ?_) (a' := ?_) #[true, true, true, false, false, false, false, false, false] rfl rfl (by kernel_rfl) (fun _ _ _ h => h) (Or.inl ⟨by rfl, ?_⟩) ?_ ?_
        rotate_left
        · intro w'
          go_simp
          with_reducible rfl
        rotate_left
        · simp only [Act.put, List.setIfInBounds_toArray, List.set_cons_zero, List.set_cons_succ, i64_w, i32_w]
          rfl
        refine pure_ (i := 3) (N := some 56) (v := ?_) (a' := ?_) #[true, true, true, true, false, false, false, false, false] rfl rfl (by kernel_rfl) (fun _ _ _ h => h) (Or.inl ⟨by rfl, ?_⟩) ?_ ?_
        rotate_left
        · intro w'
          go_simp
          with_reducible rfl
        rotate_left
        · simp only [Act.put, List.setIfInBounds_toArray, List.set_cons_zero, List.set_cons_succ, i64_w, i32_w]
          rfl
        refine pure_ (i := 4) (N := some 57) (v := ?_) (a' := ?_) #[true, true, true, true, true, false, false, false, false] rfl rfl (by kernel_rfl) (fun _ _ _ h => h) (Or.inl ⟨by rfl, ?_⟩) ?_ ?_
        rotate_left
        · intro w'
          go_simp
          with_reducible rfl
        rotate_left
        · simp only [Act.put, List.setIfInBounds_toArray, List.set_cons_zero, List.set_cons_succ, i64_w, i32_w]
          rfl
        refine one_ (i := 5) (N := some 58) #[true, true, true, true, true, true, false, false, false] rfl rfl (by kernel_rfl) (by decide) (fun K hK => ?_)
        refine goes_ Tryd.func76 (by kernel_rfl) rfl #[.agg #[], .slice (some ⟨B, p, none⟩) m3 m4] (by rfl) rfl rfl (by simp only [List.map_toArray, List.map_cons, List.map_nil]; rfl) ?_
        refine (HG5.out).mono ?_
        rintro e w6 ⟨rfl, b6⟩
        refine ⟨_, rfl, ?_⟩
        refine hK.out _ _ trivial (fun hHeld => ?_)
        clear hK K
        refine norm_ (a' := ?_) ?_ ?_
        rotate_left
        · show Act.put _ (some 58) _ = _
          simp only [Act.put, List.setIfInBounds_toArray, List.set_cons_zero, List.set_cons_succ, i64_w, i32_w]
          rfl
        refine pure_ (i := 6) (N := some 59) (v := ?_) (a' := ?_) #[true, true, true, true, true, true, true, false, false] rfl rfl (by kernel_rfl) (fun _ _ _ h => h) (Or.inl ⟨by rfl, ?_⟩) ?_ ?_
        rotate_left
        · intro w'
          go_simp
          with_reducible rfl
        rotate_left
        · simp only [Act.put, List.setIfInBounds_toArray, List.set_cons_zero, List.set_cons_succ, i64_w, i32_w]
          rfl
        refine pure_ (i := 7) (N := some 60) (v := ?_) (a' := ?_) #[true, true, true, true, true, true, true, true, false] rfl rfl (by kernel_rfl) (fun _ _ _ h => h) (Or.inl ⟨by rfl, ?_⟩) ?_ ?_
        rotate_left
        · intro w'
          go_simp
          with_reducible rfl
        rotate_left
        · simp only [Act.put, List.setIfInBounds_toArray, List.set_cons_zero, List.set_cons_succ, i64_w, i32_w]
          rfl
        have c6 : w6.cell? ⟨NB, o, none⟩ = some (.int .u64 ((0 : Nat) : Int)) := by rw [HO.out, Nat.mul_comm]; exact ((HX.out.1.fresh k (Nat.le_refl _) HR.out.2.2.2.1).below (below_drew b6) HX.out.1.nbx).base
        have f6 : w6.frozen? ⟨NB, o, none⟩ = false := (HX.out.1.keep (below_drew b6)).free o
        refine last_ (i := 8) (N := none) #[true, true, true, true, true, true, true, true, true] rfl rfl (by kernel_rfl) (by decide) (fun K hK => ?_)
        refine skip_ (w1 := ?_) (by rfl) rfl ?_ ?_
        rotate_left
        · go_simp
          rfl
        refine hK.out _ _ ?_
        clear hK K
        clear c6 f6
        refine done_ (by kernel_rfl) ?_
        have b06 : Below w.heap.size w w6 := below_two HX.out.2 (below_cut (below_drew b6) HX.out.2.size)
        have D6 := (HX.out.1.keep (below_drew b6)).skip
        have N6 := (HX.out.1.fresh k (Nat.le_refl _) HR.out.2.2.2.1).below (below_drew b6) HX.out.1.nbx
        have eo : o = 36 * k := by rw [HO.out, Nat.mul_comm]
        have D7 := D6.put 0 (by omega) (.int .u64 (b : Int))
        have N7 := node_base N6 b
        have b07 := below_chg b06 D7.2 b06.size (fun x hx => by rw [List.mem_singleton.1 hx]; exact H6.out.2.2.2)
        rw [Nat.add_zero, ← eo] at D7 b07
        rw [← eo] at N7
        generalize w6.setCell ⟨NB, o, none⟩ (.int .u64 (b : Int)) = w7 at D7 N7 b07 ⊢
        have H7 := Aside0.mk (And.intro D7.1 (And.intro N7 b07))
        clear b06 D6 N6 eo D7 N7 b07 HX HG5 b6 s3
        have v5 := w64s _ _ e6 q6
        have HQ5 := Aside0.mk v5
        clear e6 q6
        go_wp2_with fail
        clear v5
        go_loopw [6, 63] (fun v6 v63 wx => ∃ j q : Nat, v6 = .int .i64 (q : Int) ∧ v63 = .int .i64 (j : Int) ∧ Aside0 (q = p + 8 + 8 * j ∧ j ≤ 32) ∧ Aside0 (DecSt wx B SS NB ys (decT rs k) k (k + 1) nn (sz : Int) ∧ nodeAt wx NB o b (bs.take j ++ List.replicate (32 - j) 0) none none 0 ∧ Below w.heap.size w wx)) (fun _ v63 _ => Road.leftOf 32 v63)
        case atStart => exact ⟨0, q0, congrArg (Value.int .i64) HQ5.out, rfl, ⟨by rw [HR.out.2.2.2.2.2.2], by omega⟩, ⟨H7.out.1, H7.out.2.1, H7.out.2.2⟩⟩
        case round =>
          obtain ⟨j, q, rfl, rfl, HJ, HY⟩ := hrel
          obtain ⟨hq, hj32⟩ := HJ.out
          obtain ⟨hlt, b1, z1, r1, hLE, hnc, hn, hn2, hsz, hr, h2, h3, hnn, hn6, hc6⟩ := HP.out
          obtain ⟨hrk, hok, hrec, hk, hm3, hm4, hq0⟩ := HR.out
          obtain ⟨hp, hkn⟩ := HK.out
          rcases Nat.lt_or_ge j 32 with hj | hj
          · have k3 := eq_true (show (j : Int) < 32 by omega)
            have k4 := eq_true hj
            have hjb : j < bs.length := by rw [hok.2.1]; exact hj
            obtain ⟨z, hz⟩ : ∃ z, z = bs[j] := ⟨_, rfl⟩
            have hz64 : z < 18446744073709551616 := by rw [hz]; exact hok.2.2.1 _ (List.getElem_mem hjb)
            have hzz : Has ys q (leN 8 z) := by
              have := Has.flat (leN 8) 8 bs (p + 8) (fun r _ => leN_len 8 r) (by have := hrec.right.left; rw [leN_len] at this; exact this) j z (by rw [hz]; exact List.getElem?_eq_getElem hjb)
              rw [← hq] at this
              exact this
            obtain ⟨m5, hm5⟩ : ∃ m5, m5 = n - q := ⟨_, rfl⟩
            obtain ⟨m6, hm6⟩ : ∃ m6, m6 = c - q := ⟨_, rfl⟩
            have s4 : ∀ W, (Instr.slice 47 (.slice (some ⟨B, 0, none⟩) n c) (some (.int .i64 (q : Int))) none none).run Tryd.prog W = .ok (.slice (some ⟨B, q, none⟩) m5 m6) W := fun W => by
              rw [hm5, hm6]
              exact slice_i8 B n c q (by omega) (by omega) W
            have HG6 := Aside0.mk (get8_calls B q m5 m6 z ys wr.drew hz64 (by omega) HY.out.1.row hzz)
            obtain ⟨q1, hq1⟩ : ∃ q1, q1 = q + 8 := ⟨_, rfl⟩
            obtain ⟨j1, hj1⟩ : ∃ j1, j1 = j + 1 := ⟨_, rfl⟩
            have e6 : (q : Int) + 8 = (q1 : Int) := by omega
            have q6 : q1 ≤ 100000000000 := by omega
            have e7 : (j : Int) + 1 = (j1 : Int) := by omega
            have q7 : j1 ≤ 100000000000 := by omega
            have HV := Aside0.mk (And.intro hz (And.intro hj (And.intro hq1 (And.intro hj1 (And.intro (And.intro e6 q6) (And.intro e7 q7))))))
            clear hq hj32 hlt b1 z1 r1 hLE hnc hn hn2 hsz hr h2 h3 hnn hn6 hc6 hrk hok hrec hk hm3 hm4 hq0 hp hkn hz hz64 hzz hm5 hm6 hj e6 q6 e7 q7 hq1 hj1
            go_wp2_with fail
            refine start_ (n := 11) (S := fun w' => True) (ds := [10]) #[false, false, false, false, false, false, false, false, false, false, false] (by kernel_rfl) rfl rfl trivial (fun hHeld => ?_)
            refine pure_ (i := 0) (N := some 66) (v := ?_) (a' := ?_) #[true, false, false, false, false, false, false, false, false, false, false] rfl rfl (by kernel_rfl) (fun _ _ _ h => h) (Or.inl ⟨by rfl, ?_⟩) ?_ ?_
            rotate_left
            · intro w'
              go_simp
              with_reducible rfl
            rotate_left
            · simp only [Act.put, List.setIfInBounds_toArray, List.set_cons_zero, List.set_cons_succ, i64_w, i32_w]
              rfl
            refine pure_ (i := 1) (N := some 67) (v := ?_) (a' := ?_) #[true, true, false, false, false, false, false, false, false, false, false] rfl rfl (by kernel_rfl) (fun _ _ _ h => h) (Or.inl ⟨by rfl, ?_⟩) ?_ ?_
            rotate_left
            · intro w'
              go_simp
              with_reducible rfl
            rotate_left
            · simp only [Act.put, List.setIfInBounds_toArray, List.set_cons_zero, List.set_cons_succ, i64_w, i32_w]
              rfl
            refine take_ (i := 2) (N := some 68) (v := ?_) (a' := ?_) #[true, true, true, false, false, false, false, false, false, false, false] rfl rfl (by kernel_rfl) (fun _ _ _ h => h) (Or.inl ⟨by rfl, ?_⟩) hHeld ?_ ?_
            rotate_left
            · intro w' hS'
              have hle := load_le w.heap.size w'
              go_simp
              with_reducible rfl
            rotate_left
            · simp only [Act.put, List.setIfInBounds_toArray, List.set_cons_zero, List.set_cons_succ, i64_w, i32_w]
              rfl
            refine pure_ (i := 3) (N := some 69) (v := ?_) (a' := ?_) #[true, true, true, true, false, false, false, false, false, false, false] rfl rfl (by kernel_rfl) (fun _ _ _ h => h) (Or.inl ⟨by rfl, ?_⟩) ?_ ?_
            rotate_left
            · intro w'
              go_simp
              with_reducible rfl
            rotate_left
            · simp only [Act.put, List.setIfInBounds_toArray, List.set_cons_zero, List.set_cons_succ, i64_w, i32_w]
              rfl
            refine pure_ (i := 4) (N := some 70) (v := ?_) (a' := ?_) #[true, true, true, true, true, false, false, false, false, false, false] rfl rfl (by kernel_rfl) (fun _ _ _ h => h) (Or.inl ⟨by rfl, ?_⟩) ?_ ?_
            rotate_left
            · intro w'
              go_simp
              with_reducible rfl
            rotate_left
            · simp only [Act.put, List.setIfInBounds_toArray, List.set_cons_zero, List.set_cons_succ, i64_w, i32_w]
              rfl
            refine pure_ (i := 5) (N := some 71) (v := ?_) (a' := ?_) #[true, true, true, true, true, true, false, false, false, false, false] rfl rfl (by kernel_rfl) (fun _ _ _ h => h) (Or.inl ⟨by rfl, ?_⟩) ?_ ?_
            rotate_left
            · intro w'
              go_simp
              with_reducible rfl
            rotate_left
            · simp only [Act.put, List.setIfInBounds_toArray, List.set_cons_zero, List.set_cons_succ, i64_w, i32_w]
              rfl
            refine pure_ (i := 7) (N := some 73) (v := ?_) (a' := ?_) #[true, true, true, true, true, true, false, true, false, false, false] rfl rfl (by kernel_rfl) (fun _ _ _ h => h) (Or.inl ⟨by rfl, ?_⟩) ?_ ?_
            rotate_left
            · intro w'
              go_simp
              with_reducible rfl
            rotate_left
            · simp only [Act.put, List.setIfInBounds_toArray, List.set_cons_zero, List.set_cons_succ, i64_w, i32_w]
              rfl
            refine pure_ (i := 8) (N := some 74) (v := ?_) (a' := ?_) #[true, true, true, true, true, true, false, true, true, false, false] rfl rfl (by kernel_rfl) (fun _ _ _ h => h) (Or.inl ⟨by rfl, ?_⟩) ?_ ?_
            rotate_left
            · intro w'
              go_simp
              with_reducible rfl
            rotate_left
            · simp only [Act.put, List.setIfInBounds_toArray, List.set_cons_zero, List.set_cons_succ, i64_w, i32_w]
              rfl
            refine one_ (i := 6) (N := some 72) #[true, true, true, true, true, true, true, true, true, false, false] rfl rfl (by kernel_rfl) (by decide) (fun K hK => ?_)
            refine goes_ Tryd.func76 (by kernel_rfl) rfl #[.agg #[], .slice (some ⟨B, q, none⟩) m5 m6] (by rfl) rfl rfl (by simp only [List.map_toArray, List.map_cons, List.map_nil]; rfl) ?_
            refine (HG6.out).mono ?_
            rintro e w8 ⟨rfl, b8⟩
            refine ⟨_, rfl, ?_⟩
            refine hK.out _ _ trivial (fun hHeld => ?_)
            clear hK K
            refine norm_ (a' := ?_) ?_ ?_
            rotate_left
            · show Act.put _ (some 72) _ = _
              simp only [Act.put, List.setIfInBounds_toArray, List.set_cons_zero, List.set_cons_succ, i64_w, i32_w]
              rfl
            refine pure_ (i := 9) (N := some 75) (v := ?_) (a' := ?_) #[true, true, true, true, true, true, true, true, true, true, false] rfl rfl (by kernel_rfl) (fun _ _ _ h => h) (Or.inl ⟨by rfl, ?_⟩) ?_ ?_
            rotate_left
            · intro w'
              go_simp
              with_reducible rfl
            rotate_left
            · simp only [Act.put, List.setIfInBounds_toArray, List.set_cons_zero, List.set_cons_succ, i64_w, i32_w]
              rfl
            have c8 := (HY.out.2.1.below (below_drew b8) HY.out.1.nbx).bits j HV.out.2.1
            have f8 : w8.frozen? ⟨NB, o + 1 + j, none⟩ = false := (HY.out.1.keep (below_drew b8)).free _
            refine last_ (i := 10) (N := none) #[true, true, true, true, true, true, true, true, true, true, true] rfl rfl (by kernel_rfl) (by decide) (fun K hK => ?_)
            refine skip_ (w1 := ?_) (by rfl) rfl ?_ ?_
            rotate_left
            · go_simp
              rfl
            refine hK.out _ _ ?_
            clear hK K
            clear c8 f8
            refine done_ (by kernel_rfl) ?_
            have b08 : Below w.heap.size w w8 := below_two HY.out.2.2 (below_cut (below_drew b8) HY.out.2.2.size)
            have D8 := HY.out.1.keep (below_drew b8)
            have N8 := HY.out.2.1.below (below_drew b8) HY.out.1.nbx
            have eo : o = 36 * k := by rw [HO.out, Nat.mul_comm]
            have D9 := D8.put (1 + j) (by have := HV.out.2.1; omega) (.int .u64 (z : Int))
            have N9 := node_bit N8 j HV.out.2.1 z
            have b09 := below_chg b08 D9.2 b08.size (fun x hx => by rw [List.mem_singleton.1 hx]; exact H6.out.2.2.2)
            rw [← eo, ← Nat.add_assoc] at D9 b09
            generalize w8.setCell ⟨NB, o + 1 + j, none⟩ (.int .u64 (z : Int)) = w9 at D9 N9 b09 ⊢
            have H9 := Aside0.mk (And.intro D9.1 (And.intro N9 b09))
            clear b08 D8 N8 eo D9 N9 b09 HG6 b8 s4
            have v5 := w64s _ _ HV.out.2.2.2.2.1.1 HV.out.2.2.2.2.1.2
            have v6 := w64s _ _ HV.out.2.2.2.2.2.1 HV.out.2.2.2.2.2.2
            go_wp2_with fail
            clear v5 v6
            go_roundw
            case rel =>
              obtain ⟨hz, hj, hq1, hj1, ⟨x1, x2⟩, x3, x4⟩ := HV.out
              refine ⟨j1, q1, congrArg (Value.int .i64) (w64s _ _ x1 x2), congrArg (Value.int .i64) (w64s _ _ x3 x4), ⟨by have := HJ.out.1; omega, by omega⟩, ⟨H9.out.1, ?_, H9.out.2.2⟩⟩
              have hn9 := H9.out.2.1
              have e9 : (bs.take j ++ List.replicate (32 - j) 0).set j z = bs.take j1 ++ List.replicate (32 - j1) 0 := by
                have hl : (bs.take j).length = j := by rw [List.length_take]; omega
                rw [hj1, List.take_succ_eq_append_getElem hjb, ← hz, show 32 - j = (32 - (j + 1)) + 1 by omega, List.replicate_succ, List.set_append_right _ _ (by omega), hl, Nat.sub_self, List.set_cons_zero, List.append_assoc]
                rfl
              rw [e9] at hn9
              exact hn9
            case measure =>
              rw [w64s _ _ HV.out.2.2.2.2.2.1 HV.out.2.2.2.2.2.2, HV.out.2.2.2.1]
              exact Road.leftOf_lt HV.out.2.1
          · obtain rfl : j = 32 := by omega
            have k3 := eq_false (show ¬ ((32 : Int) < 32) by omega)
            obtain ⟨m5, hm5⟩ : ∃ m5, m5 = n - q := ⟨_, rfl⟩
            obtain ⟨m6, hm6⟩ : ∃ m6, m6 = c - q := ⟨_, rfl⟩
            have s4 : ∀ W, (Instr.slice 47 (.slice (some ⟨B, 0, none⟩) n c) (some (.int .i64 (q : Int))) none none).run Tryd.prog W = .ok (.slice (some ⟨B, q, none⟩) m5 m6) W := fun W => by
              rw [hm5, hm6]
              exact slice_i8 B n c q (by omega) (by omega) W
            have hhh : Has ys q (leN 2 h) := by
              have := hrec.right.right
              rw [leN_len, flat_len, hok.2.1, Int.toNat_natCast] at this
              rw [hq]
              exact this
            have HG7 := Aside0.mk (get2_calls B q m5 m6 h ys wr.drew hok.2.2.2 (by omega) HY.out.1.row hhh)
            obtain ⟨q1, hq1⟩ : ∃ q1, q1 = q + 2 := ⟨_, rfl⟩
            obtain ⟨k1', hk1⟩ : ∃ k1', k1' = k + 1 := ⟨_, rfl⟩
            have e6 : (q : Int) + 2 = (q1 : Int) := by omega
            have q6 : q1 ≤ 100000000000 := by omega
            have e7 : (k : Int) + 1 = (k1' : Int) := by omega
            have q7 : k1' ≤ 100000000000 := by omega
            have q8 : h ≤ 100000000000 := Nat.le_of_lt (Nat.lt_trans hok.2.2.2 (by decide))
            have hNbs : nodeAt wr NB o b bs none none 0 := by
              have := HY.out.2.1
              rw [List.take_of_length_le (by rw [hok.2.1]; exact Nat.le_refl _), Nat.sub_self, List.replicate_zero, List.append_nil] at this
              exact this
            have HV := Aside0.mk (And.intro hq1 (And.intro hk1 (And.intro (And.intro e6 q6) (And.intro (And.intro e7 q7) hNbs))))
            clear hq hj32 hlt b1 z1 r1 hLE hnc hn hn2 hsz hr h2 h3 hnn hn6 hc6 hrk hok hrec hk hm3 hm4 hq0 hp hkn hm5 hm6 hj e6 q6 e7 q7 hq1 hk1 hNbs hhh
            have u5 := w64n h q8
            have u6 := wi64n h q8
            clear q8
            go_wp2_with fail
            refine start_ (n := 10) (S := fun w' => True) (ds := [9]) #[false, false, false, false, false, false, false, false, false, false] (by kernel_rfl) rfl rfl trivial (fun hHeld => ?_)
            refine pure_ (i := 0) (N := some 79) (v := ?_) (a' := ?_) #[true, false, false, false, false, false, false, false, false, false] rfl rfl (by kernel_rfl) (fun _ _ _ h => h) (Or.inl ⟨by rfl, ?_⟩) ?_ ?_
            rotate_left
            · intro w'
              go_simp
              with_reducible rfl
            rotate_left
            · simp only [Act.put, List.setIfInBounds_toArray, List.set_cons_zero, List.set_cons_succ, i64_w, i32_w]
              rfl
            refine take_ (i := 1) (N := some 80) (v := ?_) (a' := ?_) #[true, true, false, false, false, false, false, false, false, false] rfl rfl (by kernel_rfl) (fun _ _ _ h => h) (Or.inl ⟨by rfl, ?_⟩) hHeld ?_ ?_
            rotate_left
            · intro w' hS'
              have hle := load_le w.heap.size w'
              go_simp
              with_reducible rfl
            rotate_left
            · simp only [Act.put, List.setIfInBounds_toArray, List.set_cons_zero, List.set_cons_succ, i64_w, i32_w]
              rfl
            refine pure_ (i := 2) (N := some 81) (v := ?_) (a' := ?_) #[true, true, true, false, false, false, false, false, false, false] rfl rfl (by kernel_rfl) (fun _ _ _ h => h) (Or.inl ⟨by rfl, ?_⟩) ?_ ?_
            rotate_left
            · intro w'
              go_simp
              with_reducible rfl
            rotate_left
            · simp only [Act.put, List.setIfInBounds_toArray, List.set_cons_zero, List.set_cons_succ, i64_w, i32_w]
              rfl
            refine pure_ (i := 3) (N := some 82) (v := ?_) (a' := ?_) #[true, true, true, true, false, false, false, false, false, false] rfl rfl (by kernel_rfl) (fun _ _ _ h => h) (Or.inl ⟨by rfl, ?_⟩) ?_ ?_
            rotate_left
            · intro w'
              go_simp
              with_reducible rfl
            rotate_left
            · simp only [Act.put, List.setIfInBounds_toArray, List.set_cons_zero, List.set_cons_succ, i64_w, i32_w]
              rfl
            refine pure_ (i := 4) (N := some 83) (v := ?_) (a' := ?_) #[true, true, true, true, true, false, false, false, false, false] rfl rfl (by kernel_rfl) (fun _ _ _ h => h) (Or.inl ⟨by rfl, ?_⟩) ?_ ?_
            rotate_left
            · intro w'
              go_simp
              with_reducible rfl
            rotate_left
            · simp only [Act.put, List.setIfInBounds_toArray, List.set_cons_zero, List.set_cons_succ, i64_w, i32_w]
              rfl
            refine one_ (i := 5) (N := some 84) #[true, true, true, true, true, true, false, false, false, false] rfl rfl (by kernel_rfl) (by decide) (fun K hK => ?_)
            refine goes_ Tryd.func77 (by kernel_rfl) rfl #[.agg #[], .slice (some ⟨B, q, none⟩) m5 m6] (by rfl) rfl rfl (by simp only [List.map_toArray, List.map_cons, List.map_nil]; rfl) ?_
            refine (HG7.out).mono ?_
            rintro e w8 ⟨rfl, b8⟩
            refine ⟨_, rfl, ?_⟩
            refine hK.out _ _ trivial (fun hHeld => ?_)
            clear hK K
            refine norm_ (a' := ?_) ?_ ?_
            rotate_left
            · show Act.put _ (some 84) _ = _
              simp only [Act.put, List.setIfInBounds_toArray, List.set_cons_zero, List.set_cons_succ, i64_w, i32_w]
              rfl
            refine pure_ (i := 6) (N := some 85) (v := ?_) (a' := ?_) #[true, true, true, true, true, true, true, false, false, false] rfl rfl (by kernel_rfl) (fun _ _ _ h => h) (Or.inl ⟨by rfl, ?_⟩) ?_ ?_
            rotate_left
            · intro w'
              go_simp
              with_reducible rfl
            rotate_left
            · simp only [Act.put, List.setIfInBounds_toArray, List.set_cons_zero, List.set_cons_succ, i64_w, i32_w]
              rfl
            refine pure_ (i := 7) (N := some 86) (v := ?_) (a' := ?_) #[true, true, true, true, true, true, true, true, false, false] rfl rfl (by kernel_rfl) (fun _ _ _ h => h) (Or.inl ⟨by rfl, ?_⟩) ?_ ?_
            rotate_left
            · intro w'
              go_simp
              with_reducible rfl
            rotate_left
            · simp only [Act.put, List.setIfInBounds_toArray, List.set_cons_zero, List.set_cons_succ, i64_w, i32_w]
              rfl
            refine pure_ (i := 8) (N := some 87) (v := ?_) (a' := ?_) #[true, true, true, true, true, true, true, true, true, false] rfl rfl (by kernel_rfl) (fun _ _ _ h => h) (Or.inl ⟨by rfl, ?_⟩) ?_ ?_
            rotate_left
            · intro w'
              go_simp
              with_reducible rfl
            rotate_left
            · simp only [Act.put, List.setIfInBounds_toArray, List.set_cons_zero, List.set_cons_succ, i64_w, i32_w]
              rfl
            have c8 := (HV.out.2.2.2.2.below (below_drew b8) HY.out.1.nbx).ht
            have f8 : w8.frozen? ⟨NB, o + 35, none⟩ = false := (HY.out.1.keep (below_drew b8)).free _
            refine last_ (i := 9) (N := none) #[true, true, true, true, true, true, true, true, true, true] rfl rfl (by kernel_rfl) (by decide) (fun K hK => ?_)
            refine skip_ (w1 := ?_) (by rfl) rfl ?_ ?_
            rotate_left
            · go_simp
              rfl
            refine hK.out _ _ ?_
            clear hK K
            clear c8 f8
            refine done_ (by kernel_rfl) ?_
            clear u5 u6
            have b08 : Below w.heap.size w w8 := below_two HY.out.2.2 (below_cut (below_drew b8) HY.out.2.2.size)
            have D8 := HY.out.1.keep (below_drew b8)
            have N8 := HV.out.2.2.2.2.below (below_drew b8) HY.out.1.nbx
            have eo : o = 36 * k := by rw [HO.out, Nat.mul_comm]
            have D9 := D8.put 35 (by omega) (.int .i64 (h : Int))
            have N9 := node_ht N8 (h : Int)
            have b09 := below_chg b08 D9.2 b08.size (fun x hx => by rw [List.mem_singleton.1 hx]; exact H6.out.2.2.2)
            rw [← eo] at D9 b09
            generalize w8.setCell ⟨NB, o + 35, none⟩ (.int .i64 (h : Int)) = w9 at D9 N9 b09 ⊢
            have N9' : nodeAt w9 NB (36 * k) b bs none none (h : Int) := by rw [← eo]; exact N9
            have HI := insertNode_calls NB SS 88 k b bs (h : Int) (decT rs k) (sz : Int) k w9 D9.1.ss D9.1.nb (by decide) D9.1.tree N9' (fun hm => Nat.lt_irrefl _ (D9.1.low k hm)) D9.1.nd (by have := HR.out.2.2.2.1; have := HP.out.2.2.2.2.2.2.2.1; have := HP.out.2.2.2.2.2.2.1; omega)
            rw [← eo] at HI
            have HI := Aside0.mk HI
            have H9 := Aside0.mk (And.intro D9.1 b09)
            clear b08 D8 N8 eo D9 N9 N9' b09 HG7 b8 s4
            have v5 := w64s _ _ HV.out.2.2.1.1 HV.out.2.2.1.2
            have v6 := w64s _ _ HV.out.2.2.2.1.1 HV.out.2.2.2.1.2
            go_wp2_with fail
            refine HI.out.mono ?_
            rintro e wA ⟨rfl, a1, a2, a3, a4, a5⟩
            go_wp2_with fail
            clear v5 v6
            go_roundw
            case rel =>
              obtain ⟨hq1, hk1, ⟨x1, x2⟩, ⟨x3, x4⟩, -⟩ := HV.out
              have et : decT rs (k + 1) = insG k b bs (h : Int) (decT rs k) := by rw [decT, HR.out.1]
              refine ⟨k1', q1, rfl, congrArg (Value.int .i64) (w64s _ _ x3 x4), ⟨by have := HJ.out.1; have := HK.out.1; omega, by have := HR.out.2.2.2.1; omega⟩, ?_⟩
              rw [hk1, et]
              exact ⟨H9.out.1.next a1 a2 a3 a4 a5, below_chg H9.out.2 a3 H9.out.2.size (fun x hx => by
                simp only [List.mem_cons, List.not_mem_nil, or_false] at hx
                rcases hx with rfl | rfl
                · exact H6.out.2.2.1
                · exact H6.out.2.2.2)⟩
            case measure =>
              rw [w64s _ _ HV.out.2.2.2.1.1 HV.out.2.2.2.1.2, HV.out.2.1]
              exact Road.leftOf_lt HR.out.2.2.2.1
      · obtain rfl : k = nn := by omega
        have k1 := eq_false (show ¬ ((k : Int) < (k : Int)) by omega)
        go_wp2_with fail
        refine bodyPost_ret (results_tmp3 rfl _ _ _) rfl ?_
        rw [← HK.out.1]
        exact ⟨SS, NB, rfl, HX.out.1, HX.out.2, H6.out.2.2.1, H6.out.2.2.2⟩

end Go.Proofs.YtjhdnapgdajllaaDoor.SetDecW
