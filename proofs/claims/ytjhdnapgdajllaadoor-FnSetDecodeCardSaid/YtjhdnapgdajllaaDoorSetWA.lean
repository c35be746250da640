/- WALKS: a node of a set of numbers (avl.SequenceSet): put, turned, found. -/
import Derived.Test.YtjhdnapgdajllaaDoorProg
import Derived.Below
import Derived.Deep.Draws
import Derived.Deep.AppendLies
import Derived.Maps.AppendAt
import Derived.OwnWalk
import Derived.Laws.BytesArg
import Derived.Laws.MakeOwn
import Derived.Laws.OwnMore
import Derived.Deep.OwnRows
import Derived.Tactics
import Derived.Lib.ConvBytes
import Derived.Laws.Slices
import Derived.WalkKit
import Derived.KernelRfl
import Derived.RowKit3
import Derived.Deep.LoopGhost
import Derived.Deep.QuietTactic
import Derived.BigQuiet
import Derived.WideLaws
import Derived.Deep.DeepCutAuto
import Derived.Deep.CutBlock
import Derived.Deep.RegionHeld3
import Derived.Laws.Rows
import Derived.Lib.AppendStr
import Derived.ArgAppend
import Derived.Laws.IdiomCopy
import Derived.OrdersHeld
import Derived.Laws.BitsLemmas
import Derived.RowKit
import Derived.Test.YtjhdnapgdajllaaDoorWWords
import Derived.Test.YtjhdnapgdajllaaDoorWLast
import Derived.Test.YtjhdnapgdajllaaDoorWTab
import Derived.Test.YtjhdnapgdajllaaDoorWFour
import Derived.Test.YtjhdnapgdajllaaDoorWQPut
import Derived.Test.YtjhdnapgdajllaaDoorWApart
import Derived.Test.YtjhdnapgdajllaaDoorWArr
import Derived.Test.YtjhdnapgdajllaaDoorWZeros
import Derived.Test.YtjhdnapgdajllaaDoorWFoot
import Derived.Test.YtjhdnapgdajllaaDoorWKept
import Derived.Test.YtjhdnapgdajllaaDoorWShare
import Derived.Test.YtjhdnapgdajllaaDoorWN
import Derived.Test.YtjhdnapgdajllaaDoorWFootNe
import Derived.Test.YtjhdnapgdajllaaDoorWAt
import Derived.Test.YtjhdnapgdajllaaDoorWEqStruct
import Derived.Test.YtjhdnapgdajllaaDoorWRepsOne
import Derived.Test.YtjhdnapgdajllaaDoorWInv
import Derived.Test.YtjhdnapgdajllaaDoorWInvWords
import Derived.Test.YtjhdnapgdajllaaDoorWGuard
import Derived.Test.YtjhdnapgdajllaaDoorWNEv
import Derived.Test.YtjhdnapgdajllaaDoorWMore
import Derived.Test.YtjhdnapgdajllaaDoorRoad
import Derived.Test.YtjhdnapgdajllaaDoorRunes
import Derived.Lib.EndianBits
import Derived.Stop.LaidErr
import Derived.RegionTactic
import Derived.StillTailTactics
import Derived.Laws.CopyRow
import Derived.Laws.CopyOwn
import Derived.Shelf.Spec.TrailingZeros
namespace Go.Proofs.YtjhdnapgdajllaaDoor.SetW
open Go.RowKit Go.Proofs.YtjhdnapgdajllaaDoorW.PrintWords Go.Proofs.YtjhdnapgdajllaaDoorW.PrintLast Go.Proofs.YtjhdnapgdajllaaDoorW.PrintMore
attribute [local go_sem] max2_int min2_int max_two min_two max_three min_three max_four min_four   -- for this text's walks alone
set_option linter.unusedVariables false
set_option linter.unusedSimpArgs false



/-! ### a tree of nodes in memory -/
inductive Tr where
  | nil
  | node (g : Nat) (b : Nat) (bs : List Nat) (l r : Tr) (h : Int)
def Tr.pp : Tr → Option Addr
  | .nil => none
  | .node g _ _ _ _ _ => some ⟨g, 0, none⟩
@[reducible] def Tr.p (t : Tr) : Value := .pointer t.pp
def Tr.ht : Tr → Int
  | .nil => 0
  | .node _ _ _ _ _ h => h
def cellsN (b : Nat) (bs : List Nat) (pl pr : Value) (h : Int) : Array Value := (Value.int .u64 (b : Int) :: (bs.map (fun z : Nat => Value.int .u64 (z : Int)) ++ [pl, pr, .int .i64 h])).toArray
def Tr.at (w : World) : Tr → Prop
  | .nil => True
  | .node g b bs l r h => bs.length = 32 ∧ w.heap[g]? = some (.cells (cellsN b bs l.p r.p h) 88 (0, 0)) ∧ l.at w ∧ r.at w
def Tr.bl : Tr → List Nat
  | .nil => []
  | .node g _ _ l r _ => g :: (l.bl ++ r.bl)
section
variable {w : World} {g b : Nat} {bs : List Nat} {pl pr : Value} {h : Int}
theorem cellsN_size (hl : bs.length = 32) : (cellsN b bs pl pr h).size = 36 := by simp [cellsN, hl]
theorem cellsN_base : (cellsN b bs pl pr h)[0]? = some (.int .u64 (b : Int)) := by simp [cellsN]
theorem cellsN_bit (hl : bs.length = 32) (j : Nat) (hj : j < 32) : (cellsN b bs pl pr h)[1 + j]? = some (.int .u64 ((bs.getD j 0 : Nat) : Int)) := by
  have e : (cellsN b bs pl pr h)[1 + j]? = (bs.map (fun z : Nat => Value.int .u64 (z : Int)) ++ [pl, pr, .int .i64 h])[j]? := by
    rw [Nat.add_comm]
    simp [cellsN]
  rw [e, List.getElem?_append_left (by rw [List.length_map]; omega), List.getElem?_map, List.getElem?_eq_getElem (by omega), List.getD_eq_getElem?_getD, List.getElem?_eq_getElem (show j < bs.length by omega)]
  rfl
theorem cellsN_at (hl : bs.length = 32) (j : Nat) : (cellsN b bs pl pr h)[33 + j]? = [pl, pr, .int .i64 h][j]? := by
  have e : (cellsN b bs pl pr h)[33 + j]? = (bs.map (fun z : Nat => Value.int .u64 (z : Int)) ++ [pl, pr, .int .i64 h])[32 + j]? := by
    rw [show 33 + j = (32 + j) + 1 by omega]
    simp [cellsN]
  rw [e, List.getElem?_append_right (by rw [List.length_map]; omega), List.length_map, hl, Nat.add_sub_cancel_left]
theorem cellsN_set (hl : bs.length = 32) (j : Nat) (v : Value) : (cellsN b bs pl pr h).setIfInBounds (33 + j) v = (Value.int .u64 (b : Int) :: (bs.map (fun z : Nat => Value.int .u64 (z : Int)) ++ ([pl, pr, .int .i64 h].set j v))).toArray := by
  unfold cellsN
  rw [List.setIfInBounds_toArray, show 33 + j = (32 + j) + 1 by omega, List.set_cons_succ, List.set_append_right _ _ (by rw [List.length_map]; omega), List.length_map, hl, Nat.add_sub_cancel_left]
theorem cellsN_setL (hl : bs.length = 32) (v : Value) : (cellsN b bs pl pr h).setIfInBounds 33 v = cellsN b bs v pr h := cellsN_set hl 0 v
theorem cellsN_setR (hl : bs.length = 32) (v : Value) : (cellsN b bs pl pr h).setIfInBounds 34 v = cellsN b bs pl v h := cellsN_set hl 1 v
theorem cellsN_setH (hl : bs.length = 32) (k : Int) : (cellsN b bs pl pr h).setIfInBounds 35 (.int .i64 k) = cellsN b bs pl pr k := cellsN_set hl 2 (.int .i64 k)
theorem cellsN_setB (hl : bs.length = 32) (j : Nat) (hj : j < 32) (z : Nat) : (cellsN b bs pl pr h).setIfInBounds (1 + j) (.int .u64 (z : Int)) = cellsN b (bs.set j z) pl pr h := by
  unfold cellsN
  rw [List.setIfInBounds_toArray, Nat.add_comm, List.set_cons_succ, List.set_append_left _ _ (by rw [List.length_map]; omega), List.map_set]
variable (hw : w.heap[g]? = some (.cells (cellsN b bs pl pr h) 88 (0, 0)))
include hw
theorem nd_base : w.cell? ⟨g, 0, none⟩ = some (.int .u64 (b : Int)) := (cell_of_row w g 0 _ _ _ hw).trans cellsN_base
theorem nd_bit (hl : bs.length = 32) (j : Nat) (hj : j < 32) : w.cell? ⟨g, 1 + j, none⟩ = some (.int .u64 ((bs.getD j 0 : Nat) : Int)) := (cell_of_row w g (1 + j) _ _ _ hw).trans (cellsN_bit hl j hj)
theorem nd_l (hl : bs.length = 32) : w.cell? ⟨g, 33, none⟩ = some pl := (cell_of_row w g 33 _ _ _ hw).trans (cellsN_at hl 0)
theorem nd_r (hl : bs.length = 32) : w.cell? ⟨g, 34, none⟩ = some pr := (cell_of_row w g 34 _ _ _ hw).trans (cellsN_at hl 1)
theorem nd_h (hl : bs.length = 32) : w.cell? ⟨g, 35, none⟩ = some (.int .i64 h) := (cell_of_row w g 35 _ _ _ hw).trans (cellsN_at hl 2)
theorem nd_free (j : Nat) : w.frozen? ⟨g, j, none⟩ = false := by simp [World.frozen?, hw]
theorem nd_setL (hl : bs.length = 32) (v : Value) : w.setCell ⟨g, 33, none⟩ v = w.setRow g (cellsN b bs v pr h) := by rw [setCell_eq_setRow w g 33 _ _ _ v hw, cellsN_setL hl]
theorem nd_setR (hl : bs.length = 32) (v : Value) : w.setCell ⟨g, 34, none⟩ v = w.setRow g (cellsN b bs pl v h) := by rw [setCell_eq_setRow w g 34 _ _ _ v hw, cellsN_setR hl]
theorem nd_setH (hl : bs.length = 32) (k : Int) : w.setCell ⟨g, 35, none⟩ (.int .i64 k) = w.setRow g (cellsN b bs pl pr k) := by rw [setCell_eq_setRow w g 35 _ _ _ _ hw, cellsN_setH hl]
theorem nd_setB (hl : bs.length = 32) (j : Nat) (hj : j < 32) (z : Nat) : w.setCell ⟨g, 1 + j, none⟩ (.int .u64 (z : Int)) = w.setRow g (cellsN b (bs.set j z) pl pr h) := by rw [setCell_eq_setRow w g (1 + j) _ _ _ _ hw, cellsN_setB hl j hj]
end
/-- What may have changed: the blocks F, and new ones. -/
structure Chg (F : List Nat) (w w' : World) : Prop where
  os : w'.os = w.os
  tape : w'.tape = w.tape
  output : w'.output = w.output
  size : w.heap.size ≤ w'.heap.size
  keep : ∀ k, k < w.heap.size → k ∉ F → w'.heap[k]? = w.heap[k]?
theorem Chg.refl (F : List Nat) (w : World) : Chg F w w := ⟨rfl, rfl, rfl, Nat.le_refl _, fun _ _ _ => rfl⟩
theorem Chg.trans {F G H : List Nat} {a b c : World} (h : Chg F a b) (k : Chg G b c) (hF : ∀ x ∈ F, x ∈ H) (hG : ∀ x ∈ G, x < a.heap.size → x ∈ H) : Chg H a c :=
  ⟨k.os.trans h.os, k.tape.trans h.tape, k.output.trans h.output, Nat.le_trans h.size k.size, fun i hi hn => (k.keep i (Nat.lt_of_lt_of_le hi h.size) (fun hx => hn (hG i hx hi))).trans (h.keep i hi (fun hx => hn (hF i hx)))⟩
theorem Chg.mono {F H : List Nat} {a b : World} (h : Chg F a b) (hF : ∀ x ∈ F, x ∈ H) : Chg H a b := ⟨h.os, h.tape, h.output, h.size, fun i hi hn => h.keep i hi (fun hx => hn (hF i hx))⟩
theorem Chg.row (w : World) (g : Nat) (cs : Array Value) : Chg [g] w (w.setRow g cs) := ⟨rfl, rfl, rfl, by rw [setRow_size]; exact Nat.le_refl _, fun k _ hk => setRow_other w g k cs (by simpa using hk)⟩
theorem at_keep {w w' : World} {F : List Nat} (hc : Chg F w w') : ∀ t : Tr, t.at w → (∀ x ∈ t.bl, x ∉ F) → t.at w'
  | .nil, _, _ => trivial
  | .node g b bs l r h, ⟨h1, h2, h3, h4⟩, hd => by
    refine ⟨h1, ?_, at_keep hc l h3 (fun x hx => hd x (by simp [Tr.bl, hx])), at_keep hc r h4 (fun x hx => hd x (by simp [Tr.bl, hx]))⟩
    rw [hc.keep g (Array.getElem?_eq_some_iff.1 h2).1 (hd g (by simp [Tr.bl]))]
    exact h2
theorem at_lt {w : World} : ∀ t : Tr, t.at w → ∀ x ∈ t.bl, x < w.heap.size
  | .nil, _, x, hx => by simp [Tr.bl] at hx
  | .node g b bs l r h, ⟨_, h2, h3, h4⟩, x, hx => by
    simp only [Tr.bl, List.mem_cons, List.mem_append] at hx
    rcases hx with rfl | hx | hx
    · exact (Array.getElem?_eq_some_iff.1 h2).1
    · exact at_lt l h3 x hx
    · exact at_lt r h4 x hx
/-! ### heights -/
def mH : Tr → Int
  | .nil => 0
  | .node _ _ _ l r _ => if r.ht < l.ht then l.ht else r.ht
def bF : Tr → Int
  | .nil => 0
  | .node _ _ _ l r _ => l.ht - r.ht
set_option maxHeartbeats 4000000 in
set_option maxRecDepth 100000 in
theorem maxH_calls (t : Tr) (w : World) (ha : t.at w) : Calls Tryd.prog 82 #[t.p] w fun e w' => e = .returned (.int .i64 (mH t)) ∧ w' = w := by
  cases t with
  | nil =>
    show Calls _ _ #[.pointer none] w _
    go_enter Tryd.func82, Tryd.ntmps82
    go_wp2
    go_ret
    exact ⟨rfl, rfl⟩
  | node g b bs l r h =>
    obtain ⟨h1, h2, h3, h4⟩ := ha
    show Calls _ _ #[.pointer (some ⟨g, 0, none⟩)] w _
    have cl := nd_l h2 h1
    have cr := nd_r h2 h1
    cases l with
    | nil =>
      cases r with
      | nil =>
        replace cl : w.cell? ⟨g, 33, none⟩ = some (.pointer none) := cl
        replace cr : w.cell? ⟨g, 34, none⟩ = some (.pointer none) := cr
        clear h1 h2 h3 h4
        go_enter Tryd.func82, Tryd.ntmps82
        go_wp2
        go_ret
        exact ⟨rfl, rfl⟩
      | node g2 b2 bs2 l2 r2 k2 =>
        replace cl : w.cell? ⟨g, 33, none⟩ = some (.pointer none) := cl
        replace cr : w.cell? ⟨g, 34, none⟩ = some (.pointer (some ⟨g2, 0, none⟩)) := cr
        have ch2 := nd_h h4.2.1 h4.1
        have hm : mH (.node g b bs .nil (.node g2 b2 bs2 l2 r2 k2) h) = if k2 < 0 then 0 else k2 := rfl
        have HM := Aside0.mk hm
        clear h1 h2 h3 h4 hm
        by_cases c : k2 < 0
        · have cd : decide (k2 < 0) = true := decide_eq_true c
          rw [HM.out, if_pos c]
          clear HM c
          go_enter Tryd.func82, Tryd.ntmps82
          go_wp2
          go_ret
          exact ⟨rfl, rfl⟩
        · have cd : decide (k2 < 0) = false := decide_eq_false c
          rw [HM.out, if_neg c]
          clear HM c
          go_enter Tryd.func82, Tryd.ntmps82
          go_wp2
          go_ret
          exact ⟨rfl, rfl⟩
    | node g1 b1 bs1 l1 r1 k1 =>
      have ch1 := nd_h h3.2.1 h3.1
      cases r with
      | nil =>
        replace cl : w.cell? ⟨g, 33, none⟩ = some (.pointer (some ⟨g1, 0, none⟩)) := cl
        replace cr : w.cell? ⟨g, 34, none⟩ = some (.pointer none) := cr
        have hm : mH (.node g b bs (.node g1 b1 bs1 l1 r1 k1) .nil h) = if 0 < k1 then k1 else 0 := rfl
        have HM := Aside0.mk hm
        clear h1 h2 h3 h4 hm
        by_cases c : 0 < k1
        · have cd : decide (0 < k1) = true := decide_eq_true c
          rw [HM.out, if_pos c]
          clear HM c
          go_enter Tryd.func82, Tryd.ntmps82
          go_wp2
          go_ret
          exact ⟨rfl, rfl⟩
        · have cd : decide (0 < k1) = false := decide_eq_false c
          rw [HM.out, if_neg c]
          clear HM c
          go_enter Tryd.func82, Tryd.ntmps82
          go_wp2
          go_ret
          exact ⟨rfl, rfl⟩
      | node g2 b2 bs2 l2 r2 k2 =>
        replace cl : w.cell? ⟨g, 33, none⟩ = some (.pointer (some ⟨g1, 0, none⟩)) := cl
        replace cr : w.cell? ⟨g, 34, none⟩ = some (.pointer (some ⟨g2, 0, none⟩)) := cr
        have ch2 := nd_h h4.2.1 h4.1
        have hm : mH (.node g b bs (.node g1 b1 bs1 l1 r1 k1) (.node g2 b2 bs2 l2 r2 k2) h) = if k2 < k1 then k1 else k2 := rfl
        have HM := Aside0.mk hm
        clear h1 h2 h3 h4 hm
        by_cases c : k2 < k1
        · have cd : decide (k2 < k1) = true := decide_eq_true c
          rw [HM.out, if_pos c]
          clear HM c
          go_enter Tryd.func82, Tryd.ntmps82
          go_wp2
          go_ret
          exact ⟨rfl, rfl⟩
        · have cd : decide (k2 < k1) = false := decide_eq_false c
          rw [HM.out, if_neg c]
          clear HM c
          go_enter Tryd.func82, Tryd.ntmps82
          go_wp2
          go_ret
          exact ⟨rfl, rfl⟩
theorem ret_i64 (z z' : Int) (h : z = z') : Ending.returned (.int .i64 z) = Ending.returned (.int .i64 z') := by rw [h]
set_option maxHeartbeats 4000000 in
set_option maxRecDepth 100000 in
theorem balF_calls (t : Tr) (w : World) (ha : t.at w) (hb : -100000 ≤ bF t ∧ bF t ≤ 100000) : Calls Tryd.prog 83 #[t.p] w fun e w' => e = .returned (.int .i64 (bF t)) ∧ w' = w := by
  cases t with
  | nil =>
    show Calls _ _ #[.pointer none] w _
    clear hb
    go_enter Tryd.func83, Tryd.ntmps83
    go_wp2
    go_ret
    exact ⟨rfl, rfl⟩
  | node g b bs l r h =>
    obtain ⟨h1, h2, h3, h4⟩ := ha
    show Calls _ _ #[.pointer (some ⟨g, 0, none⟩)] w _
    have cl := nd_l h2 h1
    have cr := nd_r h2 h1
    cases l with
    | nil =>
      cases r with
      | nil =>
        replace cl : w.cell? ⟨g, 33, none⟩ = some (.pointer none) := cl
        replace cr : w.cell? ⟨g, 34, none⟩ = some (.pointer none) := cr
        have hm : bF (.node g b bs .nil .nil h) = (0 : Int) - (0 : Int) := rfl
        obtain ⟨d, hd⟩ : ∃ d, d = (0 : Int) - (0 : Int) := ⟨_, rfl⟩
        rw [hm, ← hd]
        have HD := Aside0.mk hd
        have HBB := Aside0.mk (hm ▸ hb)
        clear h1 h2 h3 h4 hm hb hd
        go_enter Tryd.func83, Tryd.ntmps83
        go_wp2
        go_ret
        refine ⟨ret_i64 _ _ ?_, rfl⟩
        have h1 := HD.out
        have h2 := HBB.out
        first | omega | (unfold wrap64; omega)
      | node g2 b2 bs2 l2 r2 k2 =>
        replace cl : w.cell? ⟨g, 33, none⟩ = some (.pointer none) := cl
        replace cr : w.cell? ⟨g, 34, none⟩ = some (.pointer (some ⟨g2, 0, none⟩)) := cr
        have ch2 := nd_h h4.2.1 h4.1
        have hm : bF (.node g b bs .nil (.node g2 b2 bs2 l2 r2 k2) h) = (0 : Int) - k2 := rfl
        obtain ⟨d, hd⟩ : ∃ d, d = (0 : Int) - k2 := ⟨_, rfl⟩
        rw [hm, ← hd]
        have HD := Aside0.mk hd
        have HBB := Aside0.mk (hm ▸ hb)
        clear h1 h2 h3 h4 hm hb hd
        go_enter Tryd.func83, Tryd.ntmps83
        go_wp2
        go_ret
        refine ⟨ret_i64 _ _ ?_, rfl⟩
        have h1 := HD.out
        have h2 := HBB.out
        first | omega | (unfold wrap64; omega)
    | node g1 b1 bs1 l1 r1 k1 =>
      have ch1 := nd_h h3.2.1 h3.1
      cases r with
      | nil =>
        replace cl : w.cell? ⟨g, 33, none⟩ = some (.pointer (some ⟨g1, 0, none⟩)) := cl
        replace cr : w.cell? ⟨g, 34, none⟩ = some (.pointer none) := cr
        have hm : bF (.node g b bs (.node g1 b1 bs1 l1 r1 k1) .nil h) = k1 - (0 : Int) := rfl
        obtain ⟨d, hd⟩ : ∃ d, d = k1 - (0 : Int) := ⟨_, rfl⟩
        rw [hm, ← hd]
        have HD := Aside0.mk hd
        have HBB := Aside0.mk (hm ▸ hb)
        clear h1 h2 h3 h4 hm hb hd
        go_enter Tryd.func83, Tryd.ntmps83
        go_wp2
        go_ret
        refine ⟨ret_i64 _ _ ?_, rfl⟩
        have h1 := HD.out
        have h2 := HBB.out
        first | omega | (unfold wrap64; omega)
      | node g2 b2 bs2 l2 r2 k2 =>
        replace cl : w.cell? ⟨g, 33, none⟩ = some (.pointer (some ⟨g1, 0, none⟩)) := cl
        replace cr : w.cell? ⟨g, 34, none⟩ = some (.pointer (some ⟨g2, 0, none⟩)) := cr
        have ch2 := nd_h h4.2.1 h4.1
        have hm : bF (.node g b bs (.node g1 b1 bs1 l1 r1 k1) (.node g2 b2 bs2 l2 r2 k2) h) = k1 - k2 := rfl
        obtain ⟨d, hd⟩ : ∃ d, d = k1 - k2 := ⟨_, rfl⟩
        rw [hm, ← hd]
        have HD := Aside0.mk hd
        have HBB := Aside0.mk (hm ▸ hb)
        clear h1 h2 h3 h4 hm hb hd
        go_enter Tryd.func83, Tryd.ntmps83
        go_wp2
        go_ret
        refine ⟨ret_i64 _ _ ?_, rfl⟩
        have h1 := HD.out
        have h2 := HBB.out
        first | omega | (unfold wrap64; omega)
def rotLT (g b : Nat) (bs : List Nat) (o : Tr) (g2 b2 : Nat) (bs2 : List Nat) (i p : Tr) (k2 h : Int) : Tr := .node g2 b2 bs2 (.node g b bs o i (mH (.node g b bs o i h) + 1)) p (mH (.node g2 b2 bs2 (.node g b bs o i (mH (.node g b bs o i h) + 1)) p k2) + 1)
set_option maxHeartbeats 8000000 in
set_option maxRecDepth 100000 in
theorem rotL_calls (g b : Nat) (bs : List Nat) (o : Tr) (g2 b2 : Nat) (bs2 : List Nat) (i p : Tr) (k2 h : Int) (w : World) (ha : (Tr.at w (.node g b bs o (.node g2 b2 bs2 i p k2) h))) (hnd : (Tr.bl (.node g b bs o (.node g2 b2 bs2 i p k2) h)).Nodup)
    (hb1 : -100000 ≤ mH (.node g b bs o i h) ∧ mH (.node g b bs o i h) ≤ 100000) (hb2 : -100000 ≤ mH (.node g2 b2 bs2 (.node g b bs o i (mH (.node g b bs o i h) + 1)) p k2) ∧ mH (.node g2 b2 bs2 (.node g b bs o i (mH (.node g b bs o i h) + 1)) p k2) ≤ 100000) :
    Calls Tryd.prog 84 #[.pointer (some ⟨g, 0, none⟩)] w fun e w' => e = .returned (.pointer (some ⟨g2, 0, none⟩)) ∧ Tr.at w' (rotLT g b bs o g2 b2 bs2 i p k2 h) ∧ Chg [g, g2] w w' := by
  obtain ⟨h1, h2, h3, h4⟩ := ha
  obtain ⟨j1, j2, j3, j4⟩ := h4
  have hsep : g ≠ g2 ∧ (∀ x ∈ o.bl, x ∉ [g, g2]) ∧ (∀ x ∈ i.bl, x ∉ [g, g2]) ∧ (∀ x ∈ p.bl, x ∉ [g, g2]) := by
    simp only [Tr.bl, List.nodup_cons, List.nodup_append, List.mem_cons, List.mem_append, List.not_mem_nil, or_false, not_or] at hnd ⊢
    refine ⟨?_, fun x hx => ⟨?_, ?_⟩, fun x hx => ⟨?_, ?_⟩, fun x hx => ⟨?_, ?_⟩⟩ <;> grind
  have HSEP := Aside0.mk hsep
  have HO := Aside0.mk (show Tr.at w o from h3)
  have HI := Aside0.mk (show Tr.at w i from j3)
  have HP := Aside0.mk (show Tr.at w p from j4)
  have c1 : w.cell? ⟨g, 34, none⟩ = some (.pointer (some ⟨g2, 0, none⟩)) := nd_r h2 h1
  have c2 : w.cell? ⟨g2, 33, none⟩ = some (.pointer i.pp) := nd_l j2 j1
  have f1 := nd_free h2 34
  have f2 := nd_free j2 33
  have c3 : (w.setCell ⟨g, 34, none⟩ (.pointer i.pp)).cell? ⟨g2, 33, none⟩ = some (.pointer i.pp) := by rw [World.cell?_setCell_other _ _ _ _ (fun e => hsep.1 (congrArg Addr.block e))]; exact c2
  have hG : (w.setCell ⟨g, 34, none⟩ (.pointer i.pp)).heap[g2]? = some (.cells (cellsN b2 bs2 (.pointer i.pp) (.pointer p.pp) k2) 88 (0, 0)) := by rw [nd_setR h2 h1, setRow_other _ _ _ _ hsep.1.symm]; exact j2
  have f3 : (w.setCell ⟨g, 34, none⟩ (.pointer i.pp)).frozen? ⟨g2, 33, none⟩ = false := nd_free hG 33
  have E1 : (w.setCell ⟨g, 34, none⟩ (.pointer i.pp)).setCell ⟨g2, 33, none⟩ (.pointer (some ⟨g, 0, none⟩)) = (w.setRow g (cellsN b bs (.pointer o.pp) (.pointer i.pp) h)).setRow g2 (cellsN b2 bs2 (.pointer (some ⟨g, 0, none⟩)) (.pointer p.pp) k2) := by
    rw [nd_setL hG j1, nd_setR h2 h1]
  have g1 : ((w.setRow g (cellsN b bs (.pointer o.pp) (.pointer i.pp) h)).setRow g2 (cellsN b2 bs2 (.pointer (some ⟨g, 0, none⟩)) (.pointer p.pp) k2)).heap[g]? = some (.cells (cellsN b bs (.pointer o.pp) (.pointer i.pp) h) 88 (0, 0)) := by rw [setRow_other _ _ _ _ hsep.1]; exact setRow_heap _ _ _ _ _ _ h2
  have g2_ : ((w.setRow g (cellsN b bs (.pointer o.pp) (.pointer i.pp) h)).setRow g2 (cellsN b2 bs2 (.pointer (some ⟨g, 0, none⟩)) (.pointer p.pp) k2)).heap[g2]? = some (.cells (cellsN b2 bs2 (.pointer (some ⟨g, 0, none⟩)) (.pointer p.pp) k2) 88 (0, 0)) := setRow_heap _ _ _ _ _ _ (by rw [setRow_other _ _ _ _ hsep.1.symm]; exact j2)
  have C1 : Chg [g, g2] w ((w.setRow g (cellsN b bs (.pointer o.pp) (.pointer i.pp) h)).setRow g2 (cellsN b2 bs2 (.pointer (some ⟨g, 0, none⟩)) (.pointer p.pp) k2)) := (Chg.row w g _).trans (Chg.row _ g2 _) (by simp) (by simp)
  have HL := Aside0.mk (And.intro h1 j1)
  have HE1 := Aside0.mk E1
  generalize (w.setRow g (cellsN b bs (.pointer o.pp) (.pointer i.pp) h)).setRow g2 (cellsN b2 bs2 (.pointer (some ⟨g, 0, none⟩)) (.pointer p.pp) k2) = W2 at HE1 g1 g2_ C1
  have HG1 := Aside0.mk g1
  have HG2 := Aside0.mk g2_
  have HC1 := Aside0.mk C1
  have HB1 := Aside0.mk hb1
  have HB2 := Aside0.mk hb2
  clear h1 h2 h3 j1 j2 j3 j4 hsep hG E1 g1 g2_ C1 hb1 hb2 hnd
  go_enter Tryd.func84, Tryd.ntmps84
  go_wp2_with fail
  rw [HE1.out]
  clear HE1 c1 c2 c3 f1 f2 f3
  have aA : Tr.at W2 (.node g b bs o i h) := ⟨HL.out.1, HG1.out, at_keep HC1.out o HO.out HSEP.out.2.1, at_keep HC1.out i HI.out HSEP.out.2.2.1⟩
  refine (maxH_calls (.node g b bs o i h) W2 aA).mono ?_
  rintro e w' ⟨rfl, rfl⟩
  obtain ⟨x, hx⟩ : ∃ x, x = mH (.node g b bs o i h) := ⟨_, rfl⟩
  rw [← hx]
  have HX := Aside0.mk hx
  have c4 := nd_h HG1.out HL.out.1
  have f4 := nd_free HG1.out 35
  clear hx aA
  go_wp2_with fail
  obtain ⟨m, hm⟩ : ∃ m, m = wrap64 (x + 1) := ⟨_, rfl⟩
  have hm1 : m = mH (.node g b bs o i h) + 1 := by
    have := HB1.out
    rw [hm, HX.out]
    exact Road.w64 _ _ rfl (by omega) (by omega)
  rw [← hm]
  have HM := Aside0.mk hm1
  have e2 := nd_setH HG1.out HL.out.1 m
  rw [e2]
  have g3 : (w'.setRow g (cellsN b bs (.pointer o.pp) (.pointer i.pp) m)).heap[g]? = some (.cells (cellsN b bs (.pointer o.pp) (.pointer i.pp) m) 88 (0, 0)) := setRow_heap _ _ _ _ _ _ HG1.out
  have g4 : (w'.setRow g (cellsN b bs (.pointer o.pp) (.pointer i.pp) m)).heap[g2]? = some (.cells (cellsN b2 bs2 (.pointer (some ⟨g, 0, none⟩)) (.pointer p.pp) k2) 88 (0, 0)) := by rw [setRow_other _ _ _ _ HSEP.out.1.symm]; exact HG2.out
  have C2 : Chg [g, g2] w (w'.setRow g (cellsN b bs (.pointer o.pp) (.pointer i.pp) m)) := HC1.out.trans (Chg.row _ g _) (fun x h => h) (by simp)
  generalize w'.setRow g (cellsN b bs (.pointer o.pp) (.pointer i.pp) m) = W3 at g3 g4 C2 ⊢
  have HG3 := Aside0.mk g3
  have HG4 := Aside0.mk g4
  have HC2 := Aside0.mk C2
  clear g3 g4 C2 e2 hm hm1 c4 f4
  have aA : Tr.at W3 (.node g b bs o i m) := ⟨HL.out.1, HG3.out, at_keep HC2.out o HO.out HSEP.out.2.1, at_keep HC2.out i HI.out HSEP.out.2.2.1⟩
  have aB : Tr.at W3 (.node g2 b2 bs2 (.node g b bs o i m) p k2) := ⟨HL.out.2, HG4.out, aA, at_keep HC2.out p HP.out HSEP.out.2.2.2⟩
  refine (maxH_calls (.node g2 b2 bs2 (.node g b bs o i m) p k2) W3 aB).mono ?_
  rintro e w4 ⟨rfl, rfl⟩
  obtain ⟨y, hy⟩ : ∃ y, y = mH (.node g2 b2 bs2 (.node g b bs o i m) p k2) := ⟨_, rfl⟩
  rw [← hy]
  have HY := Aside0.mk hy
  have c5 := nd_h HG4.out HL.out.2
  have f5 := nd_free HG4.out 35
  clear hy aA aB
  go_wp2_with fail
  go_ret
  refine ⟨rfl, ?_⟩
  have hyb : wrap64 (y + 1) = mH (.node g2 b2 bs2 (.node g b bs o i m) p k2) + 1 := by
    have := HB2.out
    rw [HY.out]
    rw [← HM.out] at this
    exact Road.w64 _ _ rfl (by omega) (by omega)
  rw [hyb, nd_setH HG4.out HL.out.2]
  have C3 : Chg [g, g2] w (w4.setRow g2 (cellsN b2 bs2 (.pointer (some ⟨g, 0, none⟩)) (.pointer p.pp) (mH (.node g2 b2 bs2 (.node g b bs o i m) p k2) + 1))) := HC2.out.trans (Chg.row _ g2 _) (fun x h => h) (by simp)
  refine ⟨?_, C3⟩
  unfold rotLT
  rw [← HM.out]
  have q1 := (setRow_other w4 g2 g (cellsN b2 bs2 (.pointer (some ⟨g, 0, none⟩)) (.pointer p.pp) (mH (.node g2 b2 bs2 (.node g b bs o i m) p k2) + 1)) HSEP.out.1).trans HG3.out
  have q2 := setRow_heap w4 g2 _ (cellsN b2 bs2 (.pointer (some ⟨g, 0, none⟩)) (.pointer p.pp) (mH (.node g2 b2 bs2 (.node g b bs o i m) p k2) + 1)) _ _ HG4.out
  exact ⟨HL.out.2, q2, ⟨HL.out.1, q1, at_keep C3 o HO.out HSEP.out.2.1, at_keep C3 i HI.out HSEP.out.2.2.1⟩, at_keep C3 p HP.out HSEP.out.2.2.2⟩
def rotRT (g b : Nat) (bs : List Nat) (o : Tr) (g2 b2 : Nat) (bs2 : List Nat) (i p : Tr) (k2 h : Int) : Tr := .node g2 b2 bs2 p (.node g b bs i o (mH (.node g b bs i o h) + 1)) (mH (.node g2 b2 bs2 p (.node g b bs i o (mH (.node g b bs i o h) + 1)) k2) + 1)
set_option maxHeartbeats 8000000 in
set_option maxRecDepth 100000 in
theorem rotR_calls (g b : Nat) (bs : List Nat) (o : Tr) (g2 b2 : Nat) (bs2 : List Nat) (i p : Tr) (k2 h : Int) (w : World) (ha : (Tr.at w (.node g b bs (.node g2 b2 bs2 p i k2) o h))) (hnd : (Tr.bl (.node g b bs (.node g2 b2 bs2 p i k2) o h)).Nodup)
    (hb1 : -100000 ≤ mH (.node g b bs i o h) ∧ mH (.node g b bs i o h) ≤ 100000) (hb2 : -100000 ≤ mH (.node g2 b2 bs2 p (.node g b bs i o (mH (.node g b bs i o h) + 1)) k2) ∧ mH (.node g2 b2 bs2 p (.node g b bs i o (mH (.node g b bs i o h) + 1)) k2) ≤ 100000) :
    Calls Tryd.prog 85 #[.pointer (some ⟨g, 0, none⟩)] w fun e w' => e = .returned (.pointer (some ⟨g2, 0, none⟩)) ∧ Tr.at w' (rotRT g b bs o g2 b2 bs2 i p k2 h) ∧ Chg [g, g2] w w' := by
  obtain ⟨h1, h2, h3, h4⟩ := ha
  obtain ⟨j1, j2, j3, j4⟩ := h3
  have hsep : g ≠ g2 ∧ (∀ x ∈ o.bl, x ∉ [g, g2]) ∧ (∀ x ∈ i.bl, x ∉ [g, g2]) ∧ (∀ x ∈ p.bl, x ∉ [g, g2]) := by
    simp only [Tr.bl, List.nodup_cons, List.nodup_append, List.mem_cons, List.mem_append, List.not_mem_nil, or_false, not_or] at hnd ⊢
    refine ⟨?_, fun x hx => ⟨?_, ?_⟩, fun x hx => ⟨?_, ?_⟩, fun x hx => ⟨?_, ?_⟩⟩ <;> grind
  have HSEP := Aside0.mk hsep
  have HO := Aside0.mk (show Tr.at w o from h4)
  have HI := Aside0.mk (show Tr.at w i from j4)
  have HP := Aside0.mk (show Tr.at w p from j3)
  have c1 : w.cell? ⟨g, 33, none⟩ = some (.pointer (some ⟨g2, 0, none⟩)) := nd_l h2 h1
  have c2 : w.cell? ⟨g2, 34, none⟩ = some (.pointer i.pp) := nd_r j2 j1
  have f1 := nd_free h2 33
  have f2 := nd_free j2 34
  have c3 : (w.setCell ⟨g, 33, none⟩ (.pointer i.pp)).cell? ⟨g2, 34, none⟩ = some (.pointer i.pp) := by rw [World.cell?_setCell_other _ _ _ _ (fun e => hsep.1 (congrArg Addr.block e))]; exact c2
  have hG : (w.setCell ⟨g, 33, none⟩ (.pointer i.pp)).heap[g2]? = some (.cells (cellsN b2 bs2 (.pointer p.pp) (.pointer i.pp) k2) 88 (0, 0)) := by rw [nd_setL h2 h1, setRow_other _ _ _ _ hsep.1.symm]; exact j2
  have f3 : (w.setCell ⟨g, 33, none⟩ (.pointer i.pp)).frozen? ⟨g2, 34, none⟩ = false := nd_free hG 34
  have E1 : (w.setCell ⟨g, 33, none⟩ (.pointer i.pp)).setCell ⟨g2, 34, none⟩ (.pointer (some ⟨g, 0, none⟩)) = (w.setRow g (cellsN b bs (.pointer i.pp) (.pointer o.pp) h)).setRow g2 (cellsN b2 bs2 (.pointer p.pp) (.pointer (some ⟨g, 0, none⟩)) k2) := by
    rw [nd_setR hG j1, nd_setL h2 h1]
  have g1 : ((w.setRow g (cellsN b bs (.pointer i.pp) (.pointer o.pp) h)).setRow g2 (cellsN b2 bs2 (.pointer p.pp) (.pointer (some ⟨g, 0, none⟩)) k2)).heap[g]? = some (.cells (cellsN b bs (.pointer i.pp) (.pointer o.pp) h) 88 (0, 0)) := by rw [setRow_other _ _ _ _ hsep.1]; exact setRow_heap _ _ _ _ _ _ h2
  have g2_ : ((w.setRow g (cellsN b bs (.pointer i.pp) (.pointer o.pp) h)).setRow g2 (cellsN b2 bs2 (.pointer p.pp) (.pointer (some ⟨g, 0, none⟩)) k2)).heap[g2]? = some (.cells (cellsN b2 bs2 (.pointer p.pp) (.pointer (some ⟨g, 0, none⟩)) k2) 88 (0, 0)) := setRow_heap _ _ _ _ _ _ (by rw [setRow_other _ _ _ _ hsep.1.symm]; exact j2)
  have C1 : Chg [g, g2] w ((w.setRow g (cellsN b bs (.pointer i.pp) (.pointer o.pp) h)).setRow g2 (cellsN b2 bs2 (.pointer p.pp) (.pointer (some ⟨g, 0, none⟩)) k2)) := (Chg.row w g _).trans (Chg.row _ g2 _) (by simp) (by simp)
  have HL := Aside0.mk (And.intro h1 j1)
  have HE1 := Aside0.mk E1
  generalize (w.setRow g (cellsN b bs (.pointer i.pp) (.pointer o.pp) h)).setRow g2 (cellsN b2 bs2 (.pointer p.pp) (.pointer (some ⟨g, 0, none⟩)) k2) = W2 at HE1 g1 g2_ C1
  have HG1 := Aside0.mk g1
  have HG2 := Aside0.mk g2_
  have HC1 := Aside0.mk C1
  have HB1 := Aside0.mk hb1
  have HB2 := Aside0.mk hb2
  clear h1 h2 h4 j1 j2 j3 j4 hsep hG E1 g1 g2_ C1 hb1 hb2 hnd
  go_enter Tryd.func85, Tryd.ntmps85
  go_wp2_with fail
  rw [HE1.out]
  clear HE1 c1 c2 c3 f1 f2 f3
  have aA : Tr.at W2 (.node g b bs i o h) := ⟨HL.out.1, HG1.out, at_keep HC1.out i HI.out HSEP.out.2.2.1, at_keep HC1.out o HO.out HSEP.out.2.1⟩
  refine (maxH_calls (.node g b bs i o h) W2 aA).mono ?_
  rintro e w' ⟨rfl, rfl⟩
  obtain ⟨x, hx⟩ : ∃ x, x = mH (.node g b bs i o h) := ⟨_, rfl⟩
  rw [← hx]
  have HX := Aside0.mk hx
  have c4 := nd_h HG1.out HL.out.1
  have f4 := nd_free HG1.out 35
  clear hx aA
  go_wp2_with fail
  obtain ⟨m, hm⟩ : ∃ m, m = wrap64 (x + 1) := ⟨_, rfl⟩
  have hm1 : m = mH (.node g b bs i o h) + 1 := by
    have := HB1.out
    rw [hm, HX.out]
    exact Road.w64 _ _ rfl (by omega) (by omega)
  rw [← hm]
  have HM := Aside0.mk hm1
  have e2 := nd_setH HG1.out HL.out.1 m
  rw [e2]
  have g3 : (w'.setRow g (cellsN b bs (.pointer i.pp) (.pointer o.pp) m)).heap[g]? = some (.cells (cellsN b bs (.pointer i.pp) (.pointer o.pp) m) 88 (0, 0)) := setRow_heap _ _ _ _ _ _ HG1.out
  have g4 : (w'.setRow g (cellsN b bs (.pointer i.pp) (.pointer o.pp) m)).heap[g2]? = some (.cells (cellsN b2 bs2 (.pointer p.pp) (.pointer (some ⟨g, 0, none⟩)) k2) 88 (0, 0)) := by rw [setRow_other _ _ _ _ HSEP.out.1.symm]; exact HG2.out
  have C2 : Chg [g, g2] w (w'.setRow g (cellsN b bs (.pointer i.pp) (.pointer o.pp) m)) := HC1.out.trans (Chg.row _ g _) (fun x h => h) (by simp)
  generalize w'.setRow g (cellsN b bs (.pointer i.pp) (.pointer o.pp) m) = W3 at g3 g4 C2 ⊢
  have HG3 := Aside0.mk g3
  have HG4 := Aside0.mk g4
  have HC2 := Aside0.mk C2
  clear g3 g4 C2 e2 hm hm1 c4 f4
  have aA : Tr.at W3 (.node g b bs i o m) := ⟨HL.out.1, HG3.out, at_keep HC2.out i HI.out HSEP.out.2.2.1, at_keep HC2.out o HO.out HSEP.out.2.1⟩
  have aB : Tr.at W3 (.node g2 b2 bs2 p (.node g b bs i o m) k2) := ⟨HL.out.2, HG4.out, at_keep HC2.out p HP.out HSEP.out.2.2.2, aA⟩
  refine (maxH_calls (.node g2 b2 bs2 p (.node g b bs i o m) k2) W3 aB).mono ?_
  rintro e w4 ⟨rfl, rfl⟩
  obtain ⟨y, hy⟩ : ∃ y, y = mH (.node g2 b2 bs2 p (.node g b bs i o m) k2) := ⟨_, rfl⟩
  rw [← hy]
  have HY := Aside0.mk hy
  have c5 := nd_h HG4.out HL.out.2
  have f5 := nd_free HG4.out 35
  clear hy aA aB
  go_wp2_with fail
  go_ret
  refine ⟨rfl, ?_⟩
  have hyb : wrap64 (y + 1) = mH (.node g2 b2 bs2 p (.node g b bs i o m) k2) + 1 := by
    have := HB2.out
    rw [HY.out]
    rw [← HM.out] at this
    exact Road.w64 _ _ rfl (by omega) (by omega)
  rw [hyb, nd_setH HG4.out HL.out.2]
  have C3 : Chg [g, g2] w (w4.setRow g2 (cellsN b2 bs2 (.pointer p.pp) (.pointer (some ⟨g, 0, none⟩)) (mH (.node g2 b2 bs2 p (.node g b bs i o m) k2) + 1))) := HC2.out.trans (Chg.row _ g2 _) (fun x h => h) (by simp)
  refine ⟨?_, C3⟩
  unfold rotRT
  rw [← HM.out]
  have q1 := (setRow_other w4 g2 g (cellsN b2 bs2 (.pointer p.pp) (.pointer (some ⟨g, 0, none⟩)) (mH (.node g2 b2 bs2 p (.node g b bs i o m) k2) + 1)) HSEP.out.1).trans HG3.out
  have q2 := setRow_heap w4 g2 _ (cellsN b2 bs2 (.pointer p.pp) (.pointer (some ⟨g, 0, none⟩)) (mH (.node g2 b2 bs2 p (.node g b bs i o m) k2) + 1)) _ _ HG4.out
  exact ⟨HL.out.2, q2, at_keep C3 p HP.out HSEP.out.2.2.2, ⟨HL.out.1, q1, at_keep C3 i HI.out HSEP.out.2.2.1, at_keep C3 o HO.out HSEP.out.2.1⟩⟩
/-- Is the bit there? -/
def hasB (bs : List Nat) (d : Nat) : Bool := (bs.getD (d / 64) 0).testBit (d % 64)
def putB (bs : List Nat) (d : Nat) : List Nat := bs.set (d / 64) (bs.getD (d / 64) 0 ||| 2 ^ (d % 64))
theorem and_pow (z r : Nat) : (z &&& 2 ^ r = 0) ↔ z.testBit r = false := by
  constructor
  · intro h
    have := congrArg (fun x => x.testBit r) h
    simpa [Nat.testBit_and, Nat.testBit_two_pow] using this
  · intro h
    apply Nat.eq_of_testBit_eq
    intro j
    rw [Nat.testBit_and, Nat.testBit_two_pow, Nat.zero_testBit]
    by_cases e : r = j
    · rw [← e, h]; rfl
    · simp [e]
def ssC (R : Value) (sz nn : Int) (ch : Bool) : Array Value := #[R, .int .i64 sz, .int .i64 nn, .bool ch]
set_option maxHeartbeats 8000000 in
set_option maxRecDepth 100000 in
theorem set_calls (g b : Nat) (bs : List Nat) (pl pr : Value) (kh : Int) (SS : Nat) (R : Value) (sz nn : Int) (ch : Bool) (s : Nat) (w : World) (hl : bs.length = 32) (hw : w.heap[g]? = some (.cells (cellsN b bs pl pr kh) 88 (0, 0)))
    (hS : w.heap[SS]? = some (.cells (ssC R sz nn ch) 84 (0, 0))) (hne : g ≠ SS) (hb : b ≤ s) (hb2 : s < b + 2048) (hs : s < 18446744073709551616) (hz : ∀ z ∈ bs, z < 18446744073709551616) (q : Bool) (hq : q = hasB bs (s - b)) :
    Calls Tryd.prog 70 #[.pointer (some ⟨g, 0, none⟩), .int .u64 (s : Int), .pointer (some ⟨SS, 3, none⟩)] w fun e w' => e = .returned (.tuple #[]) ∧
      w'.heap[g]? = some (.cells (cellsN b (if q = true then bs else putB bs (s - b)) pl pr kh) 88 (0, 0)) ∧ w'.heap[SS]? = some (.cells (ssC R sz nn (if q = true then ch else true)) 84 (0, 0)) ∧ Chg [g, SS] w w' := by
  obtain ⟨d, hd⟩ : ∃ d, d = s - b := ⟨_, rfl⟩
  obtain ⟨i, hi⟩ : ∃ i, i = d / 64 := ⟨_, rfl⟩
  obtain ⟨r, hr⟩ : ∃ r, r = d % 64 := ⟨_, rfl⟩
  obtain ⟨μ, hμ⟩ : ∃ μ : Nat, μ = 2 ^ r := ⟨_, rfl⟩
  have hi32 : i < 32 := by omega
  have hr64 : r < 64 := by omega
  obtain ⟨z, hzz⟩ : ∃ z, z = bs.getD i 0 := ⟨_, rfl⟩
  have c1 := nd_base hw
  have c2 := nd_bit hw hl i hi32
  rw [← hzz] at c2
  have hz64 : z < 2 ^ 64 := by
    rw [hzz, List.getD_eq_getElem?_getD, List.getElem?_eq_getElem (by omega)]
    exact hz _ (List.getElem_mem _)
  have hμ64 : μ < 2 ^ 64 := by rw [hμ]; exact Nat.pow_lt_pow_right (by decide) hr64
  have e1 : IntKind.u64.wrap ((s : Int) - (b : Int)) = (d : Int) := Road.wu64 _ _ (by omega) (by omega) (by omega)
  have e2 : (d : Int) / 64 = (i : Int) := by omega
  have e3 : (d : Int) % 64 = (r : Int) := by omega
  have e7 : IntKind.u64.wrap (i : Int) = (i : Int) := Road.wu64 _ _ rfl (by omega) (by omega)
  have e4 : IntKind.u64.wrap (2 ^ r) = (μ : Int) := Road.wu64 _ _ (by rw [hμ]; push_cast; rfl) (by omega) (by omega)
  obtain ⟨y, hy⟩ : ∃ y, y = z &&& μ := ⟨_, rfl⟩
  obtain ⟨v, hv⟩ : ∃ v, v = z ||| μ := ⟨_, rfl⟩
  have e5 : bits .and .u64 (z : Int) (μ : Int) = (y : Int) := by rw [hy]; exact (bits_nat .u64 64 (by decide) wraps_u64 z μ hz64 hμ64).1
  have e6 : bits .or .u64 (z : Int) (μ : Int) = (v : Int) := by rw [hv]; exact (bits_nat .u64 64 (by decide) wraps_u64 z μ hz64 hμ64).2
  have hyq : (y = 0) ↔ q = false := by
    rw [hy, hq, hμ, hzz, hi, hr, hd]
    exact and_pow _ _
  have i1 := eq_true (show (i : Int) < 32 by omega)
  have i2 := eq_true hi32
  have i3 := eq_true (show r < 64 from hr64)
  have i4 := eq_true (show (r : Int) < 64 by omega)
  have HW := Aside0.mk hw
  have HS := Aside0.mk hS
  have HD := Aside0.mk (And.intro hd (And.intro hi (And.intro hr (And.intro hμ (And.intro hzz hv)))))
  have HL := Aside0.mk (And.intro hl hne)
  clear hb hb2 hs hz hq hd hi hr hμ hzz hz64 hμ64 hv hy hw hS hi32 hr64 hl hne
  cases q with
  | true =>
    have hy0 : ¬ y = 0 := fun e => Bool.noConfusion (hyq.1 e)
    have y1 : ((y : Int) == 0) = false := beq_eq_false_iff_ne.2 (by omega)
    have y2 : decide (y = 0) = false := decide_eq_false hy0
    have y3 := eq_false hy0
    clear hyq hy0
    go_enter Tryd.func70, Tryd.ntmps70
    go_wp2_with fail
    go_end0
    exact ⟨rfl, HW.out, HS.out, Chg.refl _ _⟩
  | false =>
    have hy0 : y = 0 := hyq.2 rfl
    have y1 : ((y : Int) == 0) = true := beq_iff_eq.2 (by omega)
    have y2 : decide (y = 0) = true := decide_eq_true hy0
    have y3 := eq_true hy0
    have fz := nd_free HW.out (1 + i)
    have k2 : w.frozen? ⟨SS, 3, none⟩ = false := by simp [World.frozen?, HS.out]
    have k1 : (w.setCell ⟨g, 1 + i, none⟩ (.int .u64 (v : Int))).cell? ⟨SS, 3, none⟩ = some (.bool ch) := by
      rw [World.cell?_setCell_other _ _ _ _ (fun e => HL.out.2 (congrArg Addr.block e)), cell_of_row w SS 3 _ _ _ HS.out]
      rfl
    have hi2 : i < 32 := of_eq_true i2
    have E := nd_setB HW.out HL.out.1 i hi2 v
    have HE := Aside0.mk E
    clear hyq hy0 E hi2
    go_enter Tryd.func70, Tryd.ntmps70
    go_wp2_with fail
    go_still_tail 11, (by kernel_rfl)
    go_wp2_with fail
    go_end0
    refine ⟨rfl, ?_⟩
    have hs1 : (w.setCell ⟨g, 1 + i, none⟩ (.int .u64 (v : Int))).drew.heap[SS]? = some (.cells (ssC R sz nn ch) 84 (0, 0)) := by
      show (w.setCell ⟨g, 1 + i, none⟩ (.int .u64 (v : Int))).heap[SS]? = _
      rw [HE.out, setRow_other _ _ _ _ HL.out.2.symm]
      exact HS.out
    have hg1 : (w.setCell ⟨g, 1 + i, none⟩ (.int .u64 (v : Int))).drew.heap[g]? = some (.cells (cellsN b (putB bs (s - b)) pl pr kh) 88 (0, 0)) := by
      show (w.setCell ⟨g, 1 + i, none⟩ (.int .u64 (v : Int))).heap[g]? = _
      rw [HE.out]
      obtain ⟨q1, q2, q3, q4, q5, q6⟩ := HD.out
      have : putB bs (s - b) = bs.set i v := by
        unfold putB
        rw [← q1, ← q2, ← q3, ← q5, ← q4, ← q6]
      rw [this]
      exact setRow_heap _ _ _ _ _ _ HW.out
    have hc1 : Chg [g, SS] w (w.setCell ⟨g, 1 + i, none⟩ (.int .u64 (v : Int))).drew := by
      have : Chg [g, SS] w (w.setCell ⟨g, 1 + i, none⟩ (.int .u64 (v : Int))) := by
        rw [HE.out]
        exact (Chg.row w g _).mono (by simp)
      exact ⟨this.os, this.tape, this.output, this.size, this.keep⟩
    have E2 := setCell_eq_setRow (w.setCell ⟨g, 1 + i, none⟩ (.int .u64 (v : Int))).drew SS 3 _ 84 (0, 0) (.bool true) hs1
    show ((w.setCell ⟨g, 1 + i, none⟩ (.int .u64 (v : Int))).drew.setCell ⟨SS, 3, none⟩ (.bool true)).heap[g]? = _ ∧ ((w.setCell ⟨g, 1 + i, none⟩ (.int .u64 (v : Int))).drew.setCell ⟨SS, 3, none⟩ (.bool true)).heap[SS]? = _ ∧ Chg [g, SS] w ((w.setCell ⟨g, 1 + i, none⟩ (.int .u64 (v : Int))).drew.setCell ⟨SS, 3, none⟩ (.bool true))
    rw [E2]
    exact ⟨(setRow_other _ _ _ _ HL.out.2).trans hg1, setRow_heap _ _ _ _ _ _ hs1, hc1.trans (Chg.row _ SS _) (fun x h => h) (by simp)⟩
/-! ### trees, in plain Lean -/
def Tr.sz : Tr → Nat
  | .nil => 0
  | .node _ _ _ l r _ => l.sz + r.sz + 1
/-- Each height is one more than the greater one below. -/
def Tr.good : Tr → Prop
  | .nil => True
  | .node g b bs l r h => h = mH (.node g b bs l r h) + 1 ∧ l.good ∧ r.good
theorem mH_node (g b : Nat) (bs : List Nat) (l r : Tr) (h h' : Int) (g' b' : Nat) (bs' : List Nat) : mH (.node g b bs l r h) = mH (.node g' b' bs' l r h') := rfl
theorem ht_sz : ∀ t : Tr, t.good → 0 ≤ t.ht ∧ t.ht ≤ t.sz
  | .nil, _ => ⟨Int.le_refl _, Int.le_refl _⟩
  | .node g b bs l r h, ⟨h1, h2, h3⟩ => by
    have hl := ht_sz l h2
    have hr := ht_sz r h3
    rw [show mH (.node g b bs l r h) = if r.ht < l.ht then l.ht else r.ht from rfl] at h1
    show 0 ≤ h ∧ h ≤ ((l.sz + r.sz + 1 : Nat) : Int)
    split at h1 <;> omega
theorem mH_sz (g b : Nat) (bs : List Nat) (l r : Tr) (h : Int) (hl : l.good) (hr : r.good) : 0 ≤ mH (.node g b bs l r h) ∧ mH (.node g b bs l r h) ≤ l.sz + r.sz := by
  have h1 := ht_sz l hl
  have h2 := ht_sz r hr
  rw [show mH (.node g b bs l r h) = if r.ht < l.ht then l.ht else r.ht from rfl]
  split <;> omega
def rotLt : Tr → Tr
  | .node g b bs o (.node g2 b2 bs2 i p k2) h => rotLT g b bs o g2 b2 bs2 i p k2 h
  | t => t
def rotRt : Tr → Tr
  | .node g b bs (.node g2 b2 bs2 p i k2) o h => rotRT g b bs o g2 b2 bs2 i p k2 h
  | t => t
theorem rotL_good (g b : Nat) (bs : List Nat) (o : Tr) (g2 b2 : Nat) (bs2 : List Nat) (i p : Tr) (k2 h : Int) (ho : o.good) (hi : i.good) (hp : p.good) : (rotLT g b bs o g2 b2 bs2 i p k2 h).good := ⟨rfl, ⟨rfl, ho, hi⟩, hp⟩
theorem rotR_good (g b : Nat) (bs : List Nat) (o : Tr) (g2 b2 : Nat) (bs2 : List Nat) (i p : Tr) (k2 h : Int) (ho : o.good) (hi : i.good) (hp : p.good) : (rotRT g b bs o g2 b2 bs2 i p k2 h).good := ⟨rfl, hp, ⟨rfl, hi, ho⟩⟩
theorem rotLt_good : ∀ t : Tr, t.good → (rotLt t).good
  | .nil, h => h
  | .node _ _ _ _ .nil _, h => h
  | .node g b bs o (.node g2 b2 bs2 i p k2) h, ⟨_, h2, _, h4, h5⟩ => rotL_good _ _ _ _ _ _ _ _ _ _ _ h2 h4 h5
theorem rotRt_good : ∀ t : Tr, t.good → (rotRt t).good
  | .nil, h => h
  | .node _ _ _ .nil _ _, h => h
  | .node g b bs (.node g2 b2 bs2 p i k2) o h, ⟨_, ⟨_, h4, h5⟩, h2⟩ => rotR_good _ _ _ _ _ _ _ _ _ _ _ h2 h5 h4
theorem rotLt_bl : ∀ t : Tr, (rotLt t).bl.Perm t.bl
  | .nil => List.Perm.refl _
  | .node _ _ _ _ .nil _ => List.Perm.refl _
  | .node g b bs o (.node g2 b2 bs2 i p k2) h => by
    show (g2 :: ((g :: (o.bl ++ i.bl)) ++ p.bl)).Perm (g :: (o.bl ++ (g2 :: (i.bl ++ p.bl))))
    rw [List.perm_iff_count]
    intro x
    simp only [List.count_cons, List.count_append]
    omega
theorem rotRt_bl : ∀ t : Tr, (rotRt t).bl.Perm t.bl
  | .nil => List.Perm.refl _
  | .node _ _ _ .nil _ _ => List.Perm.refl _
  | .node g b bs (.node g2 b2 bs2 p i k2) o h => by
    show (g2 :: (p.bl ++ (g :: (i.bl ++ o.bl)))).Perm (g :: ((g2 :: (p.bl ++ i.bl)) ++ o.bl))
    rw [List.perm_iff_count]
    intro x
    simp only [List.count_cons, List.count_append]
    omega
theorem rotLt_sz : ∀ t : Tr, (rotLt t).sz = t.sz
  | .nil => rfl
  | .node _ _ _ _ .nil _ => rfl
  | .node g b bs o (.node g2 b2 bs2 i p k2) h => by simp only [rotLt, rotLT, Tr.sz]; omega
theorem rotRt_sz : ∀ t : Tr, (rotRt t).sz = t.sz
  | .nil => rfl
  | .node _ _ _ .nil _ _ => rfl
  | .node g b bs (.node g2 b2 bs2 p i k2) o h => by simp only [rotRt, rotRT, Tr.sz]; omega
/-- A node put in balance again: its height, and a turn or two. -/
def balT (g b : Nat) (bs : List Nat) (l r : Tr) : Tr :=
  let h := mH (.node g b bs l r 0) + 1
  if 1 < l.ht - r.ht then rotRt (.node g b bs (if bF l < 0 then rotLt l else l) r h)
  else if l.ht - r.ht < -1 then rotLt (.node g b bs l (if 0 < bF r then rotRt r else r) h)
  else .node g b bs l r h
theorem bl_node {g b g' b' : Nat} {bs bs' : List Nat} {l l' r r' : Tr} {h h' : Int} (hg : g = g') (hl : l.bl.Perm l'.bl) (hr : r.bl.Perm r'.bl) : (Tr.node g b bs l r h).bl.Perm (Tr.node g' b' bs' l' r' h').bl := by
  subst hg
  exact (hl.append hr).cons g
theorem balT_bl (g b : Nat) (bs : List Nat) (l r : Tr) : (balT g b bs l r).bl.Perm (g :: (l.bl ++ r.bl)) := by
  unfold balT
  simp only
  split
  · refine (rotRt_bl _).trans ?_
    split
    · exact (rotLt_bl l).append_right r.bl |>.cons g
    · exact List.Perm.refl _
  · split
    · refine (rotLt_bl _).trans ?_
      split
      · exact (rotRt_bl r).append_left l.bl |>.cons g
      · exact List.Perm.refl _
    · exact List.Perm.refl _
theorem balT_sz (g b : Nat) (bs : List Nat) (l r : Tr) : (balT g b bs l r).sz = l.sz + r.sz + 1 := by
  unfold balT
  simp only
  split
  · rw [rotRt_sz]
    split
    · simp only [Tr.sz, rotLt_sz]
    · rfl
  · split
    · rw [rotLt_sz]
      split
      · simp only [Tr.sz, rotRt_sz]
      · rfl
    · rfl
theorem balT_good (g b : Nat) (bs : List Nat) (l r : Tr) (hl : l.good) (hr : r.good) : (balT g b bs l r).good := by
  unfold balT
  simp only
  split
  · split
    · have := rotLt_good l hl
      rename_i c _
      cases hx : rotLt l with
      | nil =>
        rw [hx] at this
        cases l with
        | nil => rw [show Tr.nil.ht = 0 from rfl] at c; have := (ht_sz r hr).1; omega
        | node g1 b1 bs1 l1 r1 k1 =>
          cases r1 with
          | nil => simp [rotLt] at hx
          | node _ _ _ _ _ _ => simp [rotLt, rotLT] at hx
      | node g1 b1 bs1 l1 r1 k1 =>
        rw [hx] at this
        exact rotR_good _ _ _ _ _ _ _ _ _ _ _ hr this.2.2 this.2.1
    · rename_i c _
      cases l with
      | nil => rw [show Tr.nil.ht = 0 from rfl] at c; have := (ht_sz r hr).1; omega
      | node g1 b1 bs1 l1 r1 k1 => exact rotR_good _ _ _ _ _ _ _ _ _ _ _ hr hl.2.2 hl.2.1
  · split
    · rename_i c
      split
      · have := rotRt_good r hr
        cases hx : rotRt r with
        | nil =>
          cases r with
          | nil => rw [show Tr.nil.ht = 0 from rfl] at c; have := (ht_sz l hl).1; omega
          | node g1 b1 bs1 l1 r1 k1 =>
            cases l1 with
            | nil => simp [rotRt] at hx
            | node _ _ _ _ _ _ => simp [rotRt, rotRT] at hx
        | node g1 b1 bs1 l1 r1 k1 =>
          rw [hx] at this
          exact rotL_good _ _ _ _ _ _ _ _ _ _ _ hl this.2.1 this.2.2
      · cases r with
        | nil => rw [show Tr.nil.ht = 0 from rfl] at c; have := (ht_sz l hl).1; omega
        | node g1 b1 bs1 l1 r1 k1 => exact rotL_good _ _ _ _ _ _ _ _ _ _ _ hl hr.2.1 hr.2.2
    · exact ⟨rfl, hl, hr⟩
/-- A number put in; n: where a new node lies. -/
def insT (n s : Nat) : Tr → Tr
  | .nil => .node n (s / 2048 * 2048) (putB (List.replicate 32 0) (s - s / 2048 * 2048)) .nil .nil 1
  | .node g b bs l r _ =>
    if s < b then balT g b bs (insT n s l) r
    else if b + 2048 ≤ s then balT g b bs l (insT n s r)
    else balT g b (if hasB bs (s - b) = true then bs else putB bs (s - b)) l r
/-- Is it there? -/
def inT (s : Nat) : Tr → Bool
  | .nil => false
  | .node _ b bs l r _ => if s < b then inT s l else if b + 2048 ≤ s then inT s r else hasB bs (s - b)
/-- Is a node for it there? -/
def ndT (s : Nat) : Tr → Bool
  | .nil => false
  | .node _ b _ l r _ => if s < b then ndT s l else if b + 2048 ≤ s then ndT s r else true
def Tr.gs : Tr → Prop
  | .nil => True
  | .node _ _ _ l r _ => l.good ∧ r.good
theorem rotLt_calls (t : Tr) (w : World) (ha : t.at w) (hnd : t.bl.Nodup) (hg : t.gs) (hsz : t.sz ≤ 20000) (hsh : ∃ g b bs o g2 b2 bs2 i p k2 h, t = .node g b bs o (.node g2 b2 bs2 i p k2) h) :
    Calls Tryd.prog 84 #[t.p] w fun e w' => e = .returned ((rotLt t).p) ∧ (rotLt t).at w' ∧ Chg t.bl w w' := by
  obtain ⟨g, b, bs, o, g2, b2, bs2, i, p, k2, h, rfl⟩ := hsh
  have hz : o.sz + (i.sz + p.sz + 1) + 1 ≤ 20000 := hsz
  have b1 := mH_sz g b bs o i h hg.1 hg.2.2.1
  have b2_ := mH_sz g2 b2 bs2 (.node g b bs o i (mH (.node g b bs o i h) + 1)) p k2 ⟨rfl, hg.1, hg.2.2.1⟩ hg.2.2.2
  have b3 : (Tr.node g b bs o i (mH (.node g b bs o i h) + 1)).sz = o.sz + i.sz + 1 := rfl
  rw [b3] at b2_
  refine (rotL_calls g b bs o g2 b2 bs2 i p k2 h w ha hnd ⟨by omega, by omega⟩ ⟨by omega, by omega⟩).mono ?_
  rintro e w' ⟨rfl, h1, h2⟩
  exact ⟨rfl, h1, h2.mono (by simp [Tr.bl])⟩
theorem rotRt_calls (t : Tr) (w : World) (ha : t.at w) (hnd : t.bl.Nodup) (hg : t.gs) (hsz : t.sz ≤ 20000) (hsh : ∃ g b bs o g2 b2 bs2 i p k2 h, t = .node g b bs (.node g2 b2 bs2 p i k2) o h) :
    Calls Tryd.prog 85 #[t.p] w fun e w' => e = .returned ((rotRt t).p) ∧ (rotRt t).at w' ∧ Chg t.bl w w' := by
  obtain ⟨g, b, bs, o, g2, b2, bs2, i, p, k2, h, rfl⟩ := hsh
  have hz : (p.sz + i.sz + 1) + o.sz + 1 ≤ 20000 := hsz
  have b1 := mH_sz g b bs i o h hg.1.2.2 hg.2
  have b2_ := mH_sz g2 b2 bs2 p (.node g b bs i o (mH (.node g b bs i o h) + 1)) k2 hg.1.2.1 ⟨rfl, hg.1.2.2, hg.2⟩
  have b3 : (Tr.node g b bs i o (mH (.node g b bs i o h) + 1)).sz = i.sz + o.sz + 1 := rfl
  rw [b3] at b2_
  refine (rotR_calls g b bs o g2 b2 bs2 i p k2 h w ha hnd ⟨by omega, by omega⟩ ⟨by omega, by omega⟩).mono ?_
  rintro e w' ⟨rfl, h1, h2⟩
  exact ⟨rfl, h1, h2.mono (by simp [Tr.bl])⟩
theorem bF_sz (t : Tr) (hg : t.good) (hsz : t.sz ≤ 20000) : -100000 ≤ bF t ∧ bF t ≤ 100000 := by
  cases t with
  | nil => exact ⟨by decide, by decide⟩
  | node g b bs l r h =>
    have h1 := ht_sz l hg.2.1
    have h2 := ht_sz r hg.2.2
    have h3 : l.sz + r.sz + 1 ≤ 20000 := hsz
    show -100000 ≤ l.ht - r.ht ∧ l.ht - r.ht ≤ 100000
    omega
/-- A tree whose balance is above 0 has a left side, and so on. -/
theorem left_of {g b : Nat} {bs : List Nat} {l r : Tr} {h : Int} (hg : (Tr.node g b bs l r h).good) (hd : 0 < bF (.node g b bs l r h)) : ∃ g2 b2 bs2 p i k2, l = .node g2 b2 bs2 p i k2 := by
  cases l with
  | nil =>
    have h2 := ht_sz r hg.2.2
    have : bF (.node g b bs .nil r h) = 0 - r.ht := rfl
    omega
  | node g2 b2 bs2 p i k2 => exact ⟨_, _, _, _, _, _, rfl⟩
theorem right_of {g b : Nat} {bs : List Nat} {l r : Tr} {h : Int} (hg : (Tr.node g b bs l r h).good) (hd : bF (.node g b bs l r h) < 0) : ∃ g2 b2 bs2 p i k2, r = .node g2 b2 bs2 p i k2 := by
  cases r with
  | nil =>
    have h2 := ht_sz l hg.2.1
    have : bF (.node g b bs l .nil h) = l.ht - 0 := rfl
    omega
  | node g2 b2 bs2 p i k2 => exact ⟨_, _, _, _, _, _, rfl⟩
theorem rotLt_shape {t : Tr} (hsh : ∃ g b bs o g2 b2 bs2 i p k2 h, t = .node g b bs o (.node g2 b2 bs2 i p k2) h) : ∃ g2 b2 bs2 p i k2, rotLt t = .node g2 b2 bs2 p i k2 := by
  obtain ⟨g, b, bs, o, g2, b2, bs2, i, p, k2, h, rfl⟩ := hsh
  exact ⟨_, _, _, _, _, _, rfl⟩
theorem rotRt_shape {t : Tr} (hsh : ∃ g b bs o g2 b2 bs2 i p k2 h, t = .node g b bs (.node g2 b2 bs2 p i k2) o h) : ∃ g2 b2 bs2 p i k2, rotRt t = .node g2 b2 bs2 p i k2 := by
  obtain ⟨g, b, bs, o, g2, b2, bs2, i, p, k2, h, rfl⟩ := hsh
  exact ⟨_, _, _, _, _, _, rfl⟩
def Tr.fit : Tr → Prop
  | .nil => True
  | .node _ b bs l r _ => b + 4096 ≤ 18446744073709551616 ∧ (∀ z ∈ bs, z < 18446744073709551616) ∧ l.fit ∧ r.fit
theorem insT_bl (n s : Nat) : ∀ t : Tr, (insT n s t).bl.Perm (if ndT s t = true then t.bl else n :: t.bl)
  | .nil => List.Perm.refl _
  | .node g b bs l r h => by
    have ihl := insT_bl n s l
    have ihr := insT_bl n s r
    unfold insT ndT
    by_cases c1 : s < b
    · rw [if_pos c1, if_pos c1]
      refine (balT_bl _ _ _ _ _).trans ?_
      refine ((ihl.append_right r.bl).cons g).trans ?_
      split
      · exact List.Perm.refl _
      · exact List.Perm.swap _ _ _
    · rw [if_neg c1, if_neg c1]
      by_cases c2 : b + 2048 ≤ s
      · rw [if_pos c2, if_pos c2]
        refine (balT_bl _ _ _ _ _).trans ?_
        refine ((ihr.append_left l.bl).cons g).trans ?_
        split
        · exact List.Perm.refl _
        · rw [List.perm_iff_count]
          intro x
          simp only [Tr.bl, List.count_cons, List.count_append]
          omega
      · rw [if_neg c2, if_neg c2, if_pos rfl]
        exact balT_bl _ _ _ _ _
theorem insT_sz (n s : Nat) : ∀ t : Tr, (insT n s t).sz = t.sz + if ndT s t = true then 0 else 1
  | .nil => rfl
  | .node g b bs l r h => by
    have ihl := insT_sz n s l
    have ihr := insT_sz n s r
    unfold insT ndT
    by_cases c1 : s < b
    · rw [if_pos c1, if_pos c1, balT_sz, ihl]; simp only [Tr.sz]; omega
    · rw [if_neg c1, if_neg c1]
      by_cases c2 : b + 2048 ≤ s
      · rw [if_pos c2, if_pos c2, balT_sz, ihr]; simp only [Tr.sz]; omega
      · rw [if_neg c2, if_neg c2, if_pos rfl, balT_sz]; rfl
theorem insT_good (n s : Nat) : ∀ t : Tr, t.good → (insT n s t).good
  | .nil, _ => ⟨rfl, trivial, trivial⟩
  | .node g b bs l r h, hg => by
    have ihl := insT_good n s l hg.2.1
    have ihr := insT_good n s r hg.2.2
    unfold insT
    split
    · exact balT_good _ _ _ _ _ ihl hg.2.2
    · split
      · exact balT_good _ _ _ _ _ hg.2.1 ihr
      · exact balT_good _ _ _ _ _ hg.2.1 hg.2.2
theorem insT_sub (n s : Nat) (t : Tr) : ∀ x ∈ (insT n s t).bl, x ∈ t.bl ∨ x = n := by
  intro x hx
  have := (insT_bl n s t).subset hx
  split at this
  · exact .inl this
  · rcases List.mem_cons.1 this with h | h
    · exact .inr h
    · exact .inl h
theorem insT_nodup (n s : Nat) (t : Tr) (h : t.bl.Nodup) (hn : n ∉ t.bl) : (insT n s t).bl.Nodup := by
  refine (insT_bl n s t).nodup_iff.2 ?_
  split
  · exact h
  · exact List.nodup_cons.2 ⟨hn, h⟩
theorem zeros_has (d : Nat) : hasB (List.replicate 32 0) d = false := by
  unfold hasB
  rw [List.getD_eq_getElem?_getD, List.getElem?_replicate]
  split <;> simp
set_option maxHeartbeats 16000000 in
set_option maxRecDepth 100000 in
theorem insert_calls (s SS : Nat) (R : Value) (sz nn : Int) (ch : Bool) (hs : s + 2048 ≤ 18446744073709551616) (hnn : 0 ≤ nn ∧ nn ≤ 1000000) : ∀ (t : Tr) (w : World), t.at w → t.bl.Nodup → t.good → t.sz ≤ 10000 → t.fit → w.heap[SS]? = some (.cells (ssC R sz nn ch) 84 (0, 0)) → SS ∉ t.bl →
    Calls Tryd.prog 71 #[t.p, .int .u64 (s : Int), .pointer (some ⟨SS, 3, none⟩), .pointer (some ⟨SS, 2, none⟩)] w fun e w' => e = .returned ((insT w.heap.size s t).p) ∧ (insT w.heap.size s t).at w' ∧ w'.heap[SS]? = some (.cells (ssC R sz (nn + if ndT s t = true then 0 else 1) (if inT s t = true then ch else true)) 84 (0, 0)) ∧ Chg (SS :: t.bl) w w' := by
  intro t
  induction t with
  | nil =>
    intro w ha hnd hg hsz hf hS hSS
    show Calls Tryd.prog 71 #[.pointer none, .int .u64 (s : Int), .pointer (some ⟨SS, 3, none⟩), .pointer (some ⟨SS, 2, none⟩)] w fun e w' => e = .returned (.pointer (some ⟨w.heap.size, 0, none⟩)) ∧ (insT w.heap.size s .nil).at w' ∧ w'.heap[SS]? = some (.cells (ssC R sz (nn + 1) true) 84 (0, 0)) ∧ Chg [SS] w w'
    obtain ⟨t, ht⟩ : ∃ t, t = s / 2048 := ⟨_, rfl⟩
    obtain ⟨b, hb⟩ : ∃ b, b = t * 2048 := ⟨_, rfl⟩
    have e1 : (s : Int) / 2048 = (t : Int) := by omega
    have e2 : IntKind.u64.wrap (t : Int) = (t : Int) := Road.wu64 _ _ rfl (by omega) (by omega)
    have e3 : IntKind.u64.wrap ((t : Int) * 2048) = (b : Int) := Road.wu64 _ _ (by omega) (by omega) (by omega)
    have HTB := Aside0.mk (And.intro ht hb)
    have HHS := Aside0.mk hs
    have HNN := Aside0.mk hnn
    have HSB := Aside0.mk hS
    clear ha hnd hg hsz hf hS hSS ht hb hs hnn
    go_enter Tryd.func71, Tryd.ntmps71
    go_wp2_with fail
    have hslt : SS < w.heap.size := (Array.getElem?_eq_some_iff.1 HSB.out).1
    refine (set_calls w.heap.size b (List.replicate 32 0) (.pointer none) (.pointer none) 1 SS R sz nn ch s _ (by rw [List.length_replicate]) (heap_alloc_new w _) (by rw [Below.heap_alloc _ _ _ hslt]; exact HSB.out) (Nat.ne_of_gt hslt) (by have := HTB.out; omega) (by have := HTB.out; omega) (by have := HHS.out; omega) (fun z hz => by rw [List.eq_of_mem_replicate hz]; decide) false (zeros_has _).symm).mono ?_
    rintro e w1 ⟨rfl, g1, s1, c1⟩
    simp only [Bool.false_eq_true, if_false] at g1 s1
    have c2 := cell_of_row w1 SS 2 _ _ _ s1
    replace c2 : w1.cell? ⟨SS, 2, none⟩ = some (.int .i64 nn) := c2
    have f2 : w1.frozen? ⟨SS, 2, none⟩ = false := by simp [World.frozen?, s1]
    have C0 : Chg [SS] w (w.alloc (.cells (cellsN b (List.replicate 32 0) (.pointer none) (.pointer none) 1) 88 (0, 0))) := ⟨rfl, rfl, rfl, by simp, fun k hk _ => Below.heap_alloc _ _ _ hk⟩
    have C1 : Chg [SS] w w1 := C0.trans c1 (fun x h => h) (fun x hx hl => by
      rcases List.mem_cons.1 hx with rfl | hx
      · omega
      · exact hx)
    have H1 := Aside0.mk (And.intro g1 (And.intro s1 (And.intro C1 hslt)))
    clear g1 s1 c1 C0 C1 hslt
    go_wp2_with fail
    go_ret
    obtain ⟨g1, s1, C1, hslt⟩ := H1.out
    have E := setCell_eq_setRow w1 SS 2 _ 84 (0, 0) (.int .i64 (wrap64 (nn + 1))) s1
    rw [E]
    have ew : wrap64 (nn + 1) = nn + 1 := Road.w64 _ _ rfl (by have := HNN.out; omega) (by have := HNN.out; omega)
    refine ⟨rfl, ⟨?_, ?_, trivial, trivial⟩, ?_, C1.trans (Chg.row _ SS _) (fun x h => h) (fun x h _ => h)⟩
    · rw [putB, List.length_set, List.length_replicate]
    · rw [setRow_other _ _ _ _ (Nat.ne_of_gt hslt), g1, HTB.out.2, HTB.out.1]
      rfl
    · rw [setRow_heap _ _ _ _ _ _ s1, ew]
      rfl
  | node g b bs l r h0 ihl ihr =>
    intro w ha hnd hg hsz hf hS hSS
    show Calls Tryd.prog 71 #[.pointer (some ⟨g, 0, none⟩), .int .u64 (s : Int), .pointer (some ⟨SS, 3, none⟩), .pointer (some ⟨SS, 2, none⟩)] w _
    obtain ⟨nn2, hn2⟩ : ∃ z : Int, z = nn + if ndT s (.node g b bs l r h0) = true then 0 else 1 := ⟨_, rfl⟩
    obtain ⟨ch2, hc2⟩ : ∃ z : Bool, z = if inT s (.node g b bs l r h0) = true then ch else true := ⟨_, rfl⟩
    rw [← hn2, ← hc2]
    have HN2 := Aside0.mk hn2
    have HC2 := Aside0.mk hc2
    clear hn2 hc2
    have k1 := nd_base ha.2.1
    have kl := nd_l ha.2.1 ha.1
    have kr := nd_r ha.2.1 ha.1
    have hb2 : IntKind.u64.wrap ((b : Int) + 2048) = ((b + 2048 : Nat) : Int) := Road.wu64 _ _ (by omega) (by omega) (by have := hf.1; omega)
    obtain ⟨b2, hbb⟩ : ∃ b2, b2 = b + 2048 := ⟨_, rfl⟩
    rw [← hbb] at hb2
    have HT := Aside0.mk (And.intro ha (And.intro hnd (And.intro hg (And.intro hsz (And.intro hf (And.intro hS hSS))))))
    have HBB := Aside0.mk hbb
    have HHS := Aside0.mk hs
    have HNN := Aside0.mk hnn
    clear ha hnd hg hsz hf hS hSS hbb hs hnn
    go_enter Tryd.func71, Tryd.ntmps71
    go_upto_if 35 with fail
    go_cut [35] from 36 (fun _ wx => ∃ (bs' : List Nat) (l' r' : Tr), Aside0 (insT w.heap.size s (.node g b bs l r h0) = balT g b bs' l' r') ∧ Aside0 (Tr.at wx (.node g b bs' l' r' h0)) ∧ Aside0 ((Tr.node g b bs' l' r' h0).bl.Nodup) ∧ Aside0 (l'.good ∧ r'.good ∧ l'.sz + r'.sz ≤ 10001) ∧ Aside0 (wx.heap[SS]? = some (.cells (ssC R sz nn2 ch2) 84 (0, 0))) ∧ Aside0 (Chg (SS :: (Tr.node g b bs l r h0).bl) w wx) ∧ Aside0 (SS ≠ g ∧ SS ∉ l'.bl ++ r'.bl ∧ ∀ x ∈ (g :: (l'.bl ++ r'.bl)), x < w.heap.size → x ∈ SS :: (Tr.node g b bs l r h0).bl))
    case first =>
      obtain ⟨ha, hnd, hg, hsz, hf, hS, hSS⟩ := HT.out
      have hsg : SS ≠ g := fun e => hSS (by rw [e]; exact List.mem_cons_self)
      have hsl : SS ∉ l.bl := fun e => hSS (List.mem_cons_of_mem _ (List.mem_append_left _ e))
      have hsr : SS ∉ r.bl := fun e => hSS (List.mem_cons_of_mem _ (List.mem_append_right _ e))
      have hlt : ∀ x ∈ (Tr.node g b bs l r h0).bl, x < w.heap.size := at_lt _ ha
      have nd := List.nodup_cons.1 hnd
      have nd2 := List.nodup_append.1 nd.2
      have hzz : l.sz + r.sz + 1 ≤ 10000 := hsz
      by_cases c : s < b
      · have c' : decide ((s : Int) < (b : Int)) = true := decide_eq_true (by omega)
        have c'' : decide (s < b) = true := decide_eq_true c
        rw [c'']
        have HH := Aside0.mk (And.intro ha (And.intro nd (And.intro nd2 (And.intro hg (And.intro hzz (And.intro hf (And.intro hS (And.intro hsg (And.intro hsl (And.intro hsr hlt))))))))))
        have HC := Aside0.mk c
        clear ha hnd hg hsz hf hS hSS hsg hsl hsr hlt nd nd2 hzz c
        replace kl : w.cell? ⟨g, 33, none⟩ = some (.pointer l.pp) := kl
        have fl := nd_free HT.out.1.2.1 33
        go_wp2_with fail
        have hx := ihl w HH.out.1.2.2.1 HH.out.2.2.1.1 HH.out.2.2.2.1.2.1 (by have := HH.out.2.2.2.2.1; omega) HH.out.2.2.2.2.2.1.2.2.1 HH.out.2.2.2.2.2.2.1 HH.out.2.2.2.2.2.2.2.2.1
        refine hx.mono ?_
        clear hx
        rintro e w1 ⟨rfl, a1, s1, c1⟩
        obtain ⟨ha, nd, nd2, hg, hzz, hf, hS, hsg, hsl, hsr, hlt⟩ := HH.out
        have hn : w.heap.size ∉ (Tr.node g b bs l r h0).bl := fun hh => Nat.lt_irrefl _ (hlt _ hh)
        have sub := insT_sub w.heap.size s l
        have q1 : w1.heap[g]? = _ := (c1.keep g (Array.getElem?_eq_some_iff.1 ha.2.1).1 (fun hh => (List.mem_cons.1 hh).elim (fun e => hsg e.symm) (fun e => nd.1 (List.mem_append_left _ e)))).trans ha.2.1
        have ar : r.at w1 := at_keep c1 r ha.2.2.2 (fun y hy hh => (List.mem_cons.1 hh).elim (fun e => hsr (e ▸ hy)) (fun e => nd2.2.2 y e y hy rfl))
        have gnl : g ∉ (insT w.heap.size s l).bl := fun hh => (sub g hh).elim (fun e => nd.1 (List.mem_append_left _ e)) (fun e => hn (by rw [← e]; exact List.mem_cons_self))
        obtain ⟨X, hX⟩ : ∃ X, X = (insT w.heap.size s l).pp := ⟨_, rfl⟩
        rw [show (insT w.heap.size s l).p = .pointer X by rw [hX]]
        have H1 := Aside0.mk (And.intro a1 (And.intro s1 (And.intro c1 (And.intro hn (And.intro sub (And.intro q1 (And.intro ar (And.intro gnl hX))))))))
        have cl1 := nd_l q1 ha.1
        have fl1 := nd_free q1 33
        clear ha nd nd2 hg hzz hf hS hsg hsl hsr hlt a1 s1 c1 hn sub q1 ar gnl hX kl fl
        go_wp2_with fail
        go_meet
        obtain ⟨ha, nd, nd2, hg, hzz, hf, hS, hsg, hsl, hsr, hlt⟩ := HH.out
        obtain ⟨a1, s1, c1, hn, sub, q1, ar, gnl, hX⟩ := H1.out
        have c := HC.out
        rw [nd_setL q1 ha.1, show (Value.pointer X) = (insT w.heap.size s l).p by rw [hX]]
        have c6 := Chg.row w1 g (cellsN b bs (insT w.heap.size s l).p r.p h0)
        refine ⟨bs, insT w.heap.size s l, r, ⟨by rw [insT, if_pos c]⟩, ⟨ha.1, setRow_heap _ _ _ _ _ _ q1, at_keep c6 _ a1 (fun y hy => by simp; rintro rfl; exact gnl hy), at_keep c6 _ ar (fun y hy => by simp; rintro rfl; exact nd.1 (List.mem_append_right _ hy))⟩, ⟨?_⟩, ⟨insT_good _ _ _ hg.2.1, hg.2.2, ?_⟩, ⟨?_⟩, ⟨?_⟩, ⟨hsg, ?_, ?_⟩⟩
        · refine List.nodup_cons.2 ⟨fun hh => (List.mem_append.1 hh).elim gnl (fun e => nd.1 (List.mem_append_right _ e)), List.nodup_append.2 ⟨insT_nodup _ _ _ nd2.1 (fun e => hn (List.mem_cons_of_mem _ (List.mem_append_left _ e))), nd2.2.1, fun x hx y hy => ?_⟩⟩
          rcases sub x hx with h | h
          · exact nd2.2.2 x h y hy
          · rintro rfl
            exact hn (by rw [← h]; exact List.mem_cons_of_mem _ (List.mem_append_right _ hy))
        · rw [insT_sz]
          split <;> omega
        · rw [setRow_other _ _ _ _ hsg, s1, HN2.out, HC2.out, ndT, if_pos c, inT, if_pos c]
        · exact c1.trans c6 (fun x hx => (List.mem_cons.1 hx).elim (fun e => by rw [e]; exact List.mem_cons_self) (fun e => List.mem_cons_of_mem _ (List.mem_cons_of_mem _ (List.mem_append_left _ e)))) (fun x hx _ => by rw [List.mem_singleton.1 hx]; exact List.mem_cons_of_mem _ List.mem_cons_self)
        · intro hh
          rcases List.mem_append.1 hh with e | e
          · rcases sub _ e with e | e
            · exact hsl e
            · have := (Array.getElem?_eq_some_iff.1 hS).1; omega
          · exact hsr e
        · intro x hx hlx
          rcases List.mem_cons.1 hx with rfl | hx
          · exact List.mem_cons_of_mem _ List.mem_cons_self
          · rcases List.mem_append.1 hx with e | e
            · rcases sub _ e with e | e
              · exact List.mem_cons_of_mem _ (List.mem_cons_of_mem _ (List.mem_append_left _ e))
              · omega
            · exact List.mem_cons_of_mem _ (List.mem_cons_of_mem _ (List.mem_append_right _ e))
      · have c' : decide ((s : Int) < (b : Int)) = false := decide_eq_false (by omega)
        have c'' : decide (s < b) = false := decide_eq_false c
        by_cases c2 : b + 2048 ≤ s
        · have d' : decide ((b2 : Int) ≤ (s : Int)) = true := decide_eq_true (by have := HBB.out; omega)
          have d'' : decide (b2 ≤ s) = true := decide_eq_true (by have := HBB.out; omega)
          rw [c'']
          have HH := Aside0.mk (And.intro ha (And.intro nd (And.intro nd2 (And.intro hg (And.intro hzz (And.intro hf (And.intro hS (And.intro hsg (And.intro hsl (And.intro hsr hlt))))))))))
          have HC := Aside0.mk (And.intro c c2)
          clear ha hnd hg hsz hf hS hSS hsg hsl hsr hlt nd nd2 hzz c c2
          replace kr : w.cell? ⟨g, 34, none⟩ = some (.pointer r.pp) := kr
          have fl := nd_free HT.out.1.2.1 34
          go_wp2_with fail
          have hx := ihr w HH.out.1.2.2.2 HH.out.2.2.1.2.1 HH.out.2.2.2.1.2.2 (by have := HH.out.2.2.2.2.1; omega) HH.out.2.2.2.2.2.1.2.2.2 HH.out.2.2.2.2.2.2.1 HH.out.2.2.2.2.2.2.2.2.2.1
          refine hx.mono ?_
          clear hx
          rintro e w1 ⟨rfl, a1, s1, c1⟩
          obtain ⟨ha, nd, nd2, hg, hzz, hf, hS, hsg, hsl, hsr, hlt⟩ := HH.out
          have hn : w.heap.size ∉ (Tr.node g b bs l r h0).bl := fun hh => Nat.lt_irrefl _ (hlt _ hh)
          have sub := insT_sub w.heap.size s r
          have q1 : w1.heap[g]? = _ := (c1.keep g (Array.getElem?_eq_some_iff.1 ha.2.1).1 (fun hh => (List.mem_cons.1 hh).elim (fun e => hsg e.symm) (fun e => nd.1 (List.mem_append_right _ e)))).trans ha.2.1
          have ar : l.at w1 := at_keep c1 l ha.2.2.1 (fun y hy hh => (List.mem_cons.1 hh).elim (fun e => hsl (e ▸ hy)) (fun e => nd2.2.2 y hy y e rfl))
          have gnl : g ∉ (insT w.heap.size s r).bl := fun hh => (sub g hh).elim (fun e => nd.1 (List.mem_append_right _ e)) (fun e => hn (by rw [← e]; exact List.mem_cons_self))
          obtain ⟨X, hX⟩ : ∃ X, X = (insT w.heap.size s r).pp := ⟨_, rfl⟩
          rw [show (insT w.heap.size s r).p = .pointer X by rw [hX]]
          have H1 := Aside0.mk (And.intro a1 (And.intro s1 (And.intro c1 (And.intro hn (And.intro sub (And.intro q1 (And.intro ar (And.intro gnl hX))))))))
          have cl1 := nd_r q1 ha.1
          have fl1 := nd_free q1 34
          clear ha nd nd2 hg hzz hf hS hsg hsl hsr hlt a1 s1 c1 hn sub q1 ar gnl hX kr fl
          go_wp2_with fail
          go_meet
          obtain ⟨ha, nd, nd2, hg, hzz, hf, hS, hsg, hsl, hsr, hlt⟩ := HH.out
          obtain ⟨a1, s1, c1, hn, sub, q1, ar, gnl, hX⟩ := H1.out
          have c := HC.out.1
          have c2 := HC.out.2
          rw [nd_setR q1 ha.1, show (Value.pointer X) = (insT w.heap.size s r).p by rw [hX]]
          have c6 := Chg.row w1 g (cellsN b bs l.p (insT w.heap.size s r).p h0)
          refine ⟨bs, l, insT w.heap.size s r, ⟨by rw [insT, if_neg c, if_pos c2]⟩, ⟨ha.1, setRow_heap _ _ _ _ _ _ q1, at_keep c6 _ ar (fun y hy => by simp; rintro rfl; exact nd.1 (List.mem_append_left _ hy)), at_keep c6 _ a1 (fun y hy => by simp; rintro rfl; exact gnl hy)⟩, ⟨?_⟩, ⟨hg.2.1, insT_good _ _ _ hg.2.2, ?_⟩, ⟨?_⟩, ⟨?_⟩, ⟨hsg, ?_, ?_⟩⟩
          · refine List.nodup_cons.2 ⟨fun hh => (List.mem_append.1 hh).elim (fun e => nd.1 (List.mem_append_left _ e)) gnl, List.nodup_append.2 ⟨nd2.1, insT_nodup _ _ _ nd2.2.1 (fun e => hn (List.mem_cons_of_mem _ (List.mem_append_right _ e))), fun x hx y hy => ?_⟩⟩
            rcases sub y hy with h | h
            · exact nd2.2.2 x hx y h
            · rintro rfl
              exact hn (by rw [← h]; exact List.mem_cons_of_mem _ (List.mem_append_left _ hx))
          · rw [insT_sz]
            split <;> omega
          · rw [setRow_other _ _ _ _ hsg, s1, HN2.out, HC2.out, ndT, if_neg c, if_pos c2, inT, if_neg c, if_pos c2]
          · exact c1.trans c6 (fun x hx => (List.mem_cons.1 hx).elim (fun e => by rw [e]; exact List.mem_cons_self) (fun e => List.mem_cons_of_mem _ (List.mem_cons_of_mem _ (List.mem_append_right _ e)))) (fun x hx _ => by rw [List.mem_singleton.1 hx]; exact List.mem_cons_of_mem _ List.mem_cons_self)
          · intro hh
            rcases List.mem_append.1 hh with e | e
            · exact hsl e
            · rcases sub _ e with e | e
              · exact hsr e
              · have := (Array.getElem?_eq_some_iff.1 hS).1; omega
          · intro x hx hlx
            rcases List.mem_cons.1 hx with rfl | hx
            · exact List.mem_cons_of_mem _ List.mem_cons_self
            · rcases List.mem_append.1 hx with e | e
              · exact List.mem_cons_of_mem _ (List.mem_cons_of_mem _ (List.mem_append_left _ e))
              · rcases sub _ e with e | e
                · exact List.mem_cons_of_mem _ (List.mem_cons_of_mem _ (List.mem_append_right _ e))
                · omega
        · have d' : decide ((b2 : Int) ≤ (s : Int)) = false := decide_eq_false (by have := HBB.out; omega)
          have d'' : decide (b2 ≤ s) = false := decide_eq_false (by have := HBB.out; omega)
          rw [c'']
          have HH := Aside0.mk (And.intro ha (And.intro nd (And.intro nd2 (And.intro hg (And.intro hzz (And.intro hf (And.intro hS (And.intro hsg (And.intro hsl (And.intro hsr hlt))))))))))
          have HC := Aside0.mk (And.intro c c2)
          clear ha hnd hg hsz hf hS hSS hsg hsl hsr hlt nd nd2 hzz c c2
          go_wp2_with fail
          refine (set_calls g b bs l.p r.p h0 SS R sz nn ch s w HH.out.1.1 HH.out.1.2.1 HH.out.2.2.2.2.2.2.1 HH.out.2.2.2.2.2.2.2.1.symm (by have := HC.out.1; omega) (by have := HC.out.2; omega) (by have := HHS.out; omega) HH.out.2.2.2.2.2.1.2.1 (hasB bs (s - b)) rfl).mono ?_
          rintro e w1 ⟨rfl, g1, s1, c1⟩
          have H1 := Aside0.mk (And.intro g1 (And.intro s1 c1))
          clear g1 s1 c1
          go_wp2_with fail
          go_meet
          obtain ⟨ha, nd, nd2, hg, hzz, hf, hS, hsg, hsl, hsr, hlt⟩ := HH.out
          obtain ⟨g1, s1, c1⟩ := H1.out
          have c := HC.out.1
          have c2 := HC.out.2
          have hl32 : (if hasB bs (s - b) = true then bs else putB bs (s - b)).length = 32 := by
            split
            · exact ha.1
            · rw [putB, List.length_set]; exact ha.1
          refine ⟨if hasB bs (s - b) = true then bs else putB bs (s - b), l, r, ⟨by rw [insT, if_neg c, if_neg c2]⟩, ⟨hl32, g1, at_keep c1 l ha.2.2.1 (fun y hy hh => ?_), at_keep c1 r ha.2.2.2 (fun y hy hh => ?_)⟩, ⟨List.nodup_cons.2 ⟨nd.1, nd.2⟩⟩, ⟨hg.2.1, hg.2.2, by omega⟩, ⟨?_⟩, ⟨c1.mono (fun x hx => ?_)⟩, ⟨hsg, fun hh => (List.mem_append.1 hh).elim hsl hsr, fun x hx _ => List.mem_cons_of_mem _ hx⟩⟩
          · rcases List.mem_cons.1 hh with rfl | hh
            · exact nd.1 (List.mem_append_left _ hy)
            · rw [List.mem_singleton.1 hh] at hy; exact hsl hy
          · rcases List.mem_cons.1 hh with rfl | hh
            · exact nd.1 (List.mem_append_right _ hy)
            · rw [List.mem_singleton.1 hh] at hy; exact hsr hy
          · rw [s1, HN2.out, HC2.out, ndT, if_neg c, if_neg c2, inT, if_neg c, if_neg c2, if_pos rfl, Int.add_zero]
          · rcases List.mem_cons.1 hx with rfl | hx
            · exact List.mem_cons_of_mem _ List.mem_cons_self
            · rw [List.mem_singleton.1 hx]; exact List.mem_cons_self
    case rest =>
      obtain ⟨bs', l', r', HI, HA, HN, HGD, HSS, HCH, HNS⟩ := hcut
      clear k1 kl kr hb2
      go_wp2_with fail
      refine (maxH_calls (.node g b bs' l' r' h0) wc HA.out).mono ?_
      rintro e w1 ⟨rfl, rfl⟩
      obtain ⟨x, hx⟩ : ∃ x, x = mH (.node g b bs' l' r' h0) := ⟨_, rfl⟩
      rw [← hx]
      have HX := Aside0.mk hx
      clear hx
      have n1 := nd_free HA.out.2.1 35
      have n2 := nd_h HA.out.2.1 HA.out.1
      go_wp2_with fail
      have ex : wrap64 (x + 1) = mH (.node g b bs' l' r' 0) + 1 := by
        have h1 := mH_sz g b bs' l' r' h0 HGD.out.1 HGD.out.2.1
        have h2 := HGD.out.2.2
        rw [HX.out, show mH (.node g b bs' l' r' 0) = mH (.node g b bs' l' r' h0) from rfl]
        exact Road.w64 _ _ rfl (by omega) (by omega)
      rw [ex, nd_setH HA.out.2.1 HA.out.1]
      obtain ⟨h1, hh1⟩ : ∃ h1, h1 = mH (.node g b bs' l' r' 0) + 1 := ⟨_, rfl⟩
      rw [← hh1]
      have HH1 := Aside0.mk hh1
      clear ex n1 n2 hh1
      have C1 := HCH.out.trans (Chg.row w1 g (cellsN b bs' l'.p r'.p h1)) (fun x h => h) (fun x hx => HNS.out.2.2 x (by rw [List.mem_singleton.1 hx]; exact List.mem_cons_self))
      have C1a := Chg.row w1 g (cellsN b bs' l'.p r'.p h1)
      have q1 := setRow_heap w1 g _ (cellsN b bs' l'.p r'.p h1) _ _ HA.out.2.1
      have nd := List.nodup_cons.1 HN.out
      have A1 : Tr.at (w1.setRow g (cellsN b bs' l'.p r'.p h1)) (.node g b bs' l' r' h1) := ⟨HA.out.1, q1, at_keep C1a l' HA.out.2.2.1 (fun y hy => by simp; rintro rfl; exact nd.1 (List.mem_append_left _ hy)), at_keep C1a r' HA.out.2.2.2 (fun y hy => by simp; rintro rfl; exact nd.1 (List.mem_append_right _ hy))⟩
      have S1 : (w1.setRow g (cellsN b bs' l'.p r'.p h1)).heap[SS]? = _ := (setRow_other _ _ _ _ HNS.out.1).trans HSS.out
      generalize w1.setRow g (cellsN b bs' l'.p r'.p h1) = W1 at C1 A1 S1 ⊢
      have HC1 := Aside0.mk C1
      have HA1 := Aside0.mk A1
      have HS1 := Aside0.mk S1
      clear C1 C1a q1 nd A1 S1
      have G1 : (Tr.node g b bs' l' r' h1).good := ⟨by rw [HH1.out]; rfl, HGD.out.1, HGD.out.2.1⟩
      have Z1 : (Tr.node g b bs' l' r' h1).sz ≤ 20000 := by have := HGD.out.2.2; show l'.sz + r'.sz + 1 ≤ 20000; omega
      refine (balF_calls (.node g b bs' l' r' h1) W1 HA1.out (bF_sz _ G1 Z1)).mono ?_
      rintro e w2 ⟨rfl, rfl⟩
      obtain ⟨d, hd⟩ : ∃ d, d = bF (.node g b bs' l' r' h1) := ⟨_, rfl⟩
      rw [← hd]
      have HD := Aside0.mk hd
      have HG1 := Aside0.mk (And.intro G1 Z1)
      clear hd G1 Z1
      have nl : w2.cell? ⟨g, 33, none⟩ = some (.pointer l'.pp) := nd_l HA1.out.2.1 HA1.out.1
      have nr : w2.cell? ⟨g, 34, none⟩ = some (.pointer r'.pp) := nd_r HA1.out.2.1 HA1.out.1
      have fl := nd_free HA1.out.2.1 33
      have fr := nd_free HA1.out.2.1 34
      by_cases c1 : 1 < d
      · have c1' : decide (1 < d) = true := decide_eq_true c1
        obtain ⟨g1, b1, bs1, lx, rx, k1, hs⟩ := left_of (show (Tr.node g b bs' l' r' h1).good from HG1.out.1) (by rw [← HD.out]; omega)
        have HSH := Aside0.mk hs
        clear hs
        have esp : l'.pp = some ⟨g1, 0, none⟩ := by rw [HSH.out]; rfl
        rw [esp] at nl
        have HESP := Aside0.mk esp
        clear esp
        go_wp2_with fail
        have hbs := balF_calls l' w2 HA1.out.2.2.1 (bF_sz l' HGD.out.1 (by have := HGD.out.2.2; omega))
        rw [show l'.p = .pointer (some ⟨g1, 0, none⟩) by rw [Tr.p, HESP.out]] at hbs
        refine hbs.mono ?_
        clear hbs
        rintro e w3 ⟨rfl, rfl⟩
        obtain ⟨d2, hd2⟩ : ∃ d2, d2 = bF l' := ⟨_, rfl⟩
        rw [← hd2]
        have HD2 := Aside0.mk hd2
        clear hd2
        by_cases c2 : d2 < 0
        · have c2' : decide (d2 < 0) = true := decide_eq_true c2
          obtain ⟨g3, b3, bs3, ly, ry, k3, ht⟩ := right_of (by rw [← HSH.out]; exact HGD.out.1 : (Tr.node g1 b1 bs1 lx rx k1).good) (by rw [← HSH.out, ← HD2.out]; omega)
          have hshape : ∃ g b bs o g2 b2 bs2 i p k2 h, l' = .node g b bs o (.node g2 b2 bs2 i p k2) h := ⟨_, _, _, _, _, _, _, _, _, _, _, by rw [HSH.out, ht]⟩
          have HSHP := Aside0.mk hshape
          clear ht hshape c2
          go_wp2_with fail
          have nd := List.nodup_cons.1 HN.out
          have hrc := rotLt_calls l' w3 HA1.out.2.2.1 (List.nodup_append.1 nd.2).1 (by rw [HSH.out]; have := HGD.out.1; rw [HSH.out] at this; exact ⟨this.2.1, this.2.2⟩) (by have := HGD.out.2.2; omega) HSHP.out
          rw [show l'.p = .pointer (some ⟨g1, 0, none⟩) by rw [Tr.p, HESP.out]] at hrc
          refine hrc.mono ?_
          clear hrc
          rintro e w4 ⟨rfl, a4, c4⟩
          have p4 := rotLt_bl l'
          have hgn : g ∉ l'.bl := fun hh => nd.1 (List.mem_append_left _ hh)
          have q4 : w4.heap[g]? = _ := (c4.keep g (Array.getElem?_eq_some_iff.1 HA1.out.2.1).1 hgn).trans HA1.out.2.1
          have a5 : r'.at w4 := at_keep c4 r' HA1.out.2.2.2 (fun y hy hy2 => (List.nodup_append.1 nd.2).2.2 y hy2 y hy rfl)
          have s4 : w4.heap[SS]? = _ := (c4.keep SS (Array.getElem?_eq_some_iff.1 HS1.out).1 (fun hh => HNS.out.2.1 (List.mem_append_left _ hh))).trans HS1.out
          have C4 := HC1.out.trans c4 (fun x h => h) (fun x hx => HNS.out.2.2 x (List.mem_cons_of_mem _ (List.mem_append_left _ hx)))
          have f4 := nd_free q4 33
          have n4 := nd_l q4 HA.out.1
          have H4 := Aside0.mk (And.intro a4 (And.intro a5 (And.intro q4 (And.intro s4 (And.intro C4 (And.intro p4 hgn))))))
          obtain ⟨g5, b5, bs5, l5, r5, k5, ht5⟩ := rotLt_shape HSHP.out
          have e5 : (rotLt l').pp = some ⟨g5, 0, none⟩ := by rw [ht5]; rfl
          rw [Tr.p, e5]
          have HE5 := Aside0.mk e5
          clear nd a4 a5 q4 s4 c4 C4 p4 hgn ht5 e5 nl nr fl fr
          go_wp2_with fail
          rw [show (Value.pointer (some ⟨g5, 0, none⟩)) = (rotLt l').p by rw [Tr.p, HE5.out], nd_setL H4.out.2.2.1 HA.out.1]
          obtain ⟨a4, a5, q4, s4, C4, p4, hgn⟩ := H4.out
          have c6 := Chg.row w4 g (cellsN b bs' (rotLt l').p r'.p h1)
          have q6 := setRow_heap w4 g _ (cellsN b bs' (rotLt l').p r'.p h1) _ _ q4
          have nd := List.nodup_cons.1 HN.out
          have a6 : (rotLt l').at (w4.setRow g (cellsN b bs' (rotLt l').p r'.p h1)) := at_keep c6 _ a4 (fun y hy => by simp; rintro rfl; exact hgn (p4.subset hy))
          have a7 : r'.at (w4.setRow g (cellsN b bs' (rotLt l').p r'.p h1)) := at_keep c6 _ a5 (fun y hy => by simp; rintro rfl; exact nd.1 (List.mem_append_right _ hy))
          have s6 : (w4.setRow g (cellsN b bs' (rotLt l').p r'.p h1)).heap[SS]? = _ := (setRow_other _ _ _ _ HNS.out.1).trans s4
          have C6 := C4.trans c6 (fun x h => h) (fun x hx => HNS.out.2.2 x (by rw [List.mem_singleton.1 hx]; exact List.mem_cons_self))
          have A6 : Tr.at (w4.setRow g (cellsN b bs' (rotLt l').p r'.p h1)) (.node g b bs' (rotLt l') r' h1) := ⟨HA.out.1, q6, a6, a7⟩
          have N6 : (Tr.bl (.node g b bs' (rotLt l') r' h1)).Nodup := (bl_node rfl p4 (List.Perm.refl _)).nodup_iff.2 HN.out
          have P6 : (Tr.bl (.node g b bs' (rotLt l') r' h1)).Perm (g :: (l'.bl ++ r'.bl)) := bl_node (b := b) (b' := b) (bs := bs') (bs' := bs') (h := h1) (h' := h1) rfl p4 (List.Perm.refl _)
          generalize w4.setRow g (cellsN b bs' (rotLt l').p r'.p h1) = W6 at A6 s6 C6 ⊢
          refine (rotRt_calls (.node g b bs' (rotLt l') r' h1) W6 A6 N6 ⟨rotLt_good _ HGD.out.1, HGD.out.2.1⟩ (by have := HGD.out.2.2; show (rotLt l').sz + r'.sz + 1 ≤ 20000; rw [rotLt_sz]; omega) (by obtain ⟨g9, b9, bs9, l9, r9, k9, hz9⟩ := rotLt_shape HSHP.out; rw [hz9]; exact ⟨_, _, _, _, _, _, _, _, _, _, _, rfl⟩)).mono ?_
          rintro e w7 ⟨rfl, a9, c9⟩
          have EQ : balT g b bs' l' r' = rotRt (.node g b bs' (rotLt l') r' h1) := by
            unfold balT
            simp only
            rw [if_pos (show 1 < l'.ht - r'.ht by have h := HD.out; rw [show bF (.node g b bs' l' r' h1) = l'.ht - r'.ht from rfl] at h; omega), if_pos (show bF l' < 0 by rw [← HD2.out]; exact of_decide_eq_true c2'), ← HH1.out]
          have C9 := C6.trans c9 (fun x h => h) (fun x hx => HNS.out.2.2 x (P6.subset hx))
          have s9 : w7.heap[SS]? = _ := (c9.keep SS (Array.getElem?_eq_some_iff.1 s6).1 (fun hh => (List.mem_cons.1 (P6.subset hh)).elim (fun e => HNS.out.1 e) HNS.out.2.1)).trans s6
          have H9 := Aside0.mk (And.intro EQ (And.intro a9 (And.intro s9 C9)))
          clear H4 a4 a5 q4 s4 C4 p4 hgn c6 q6 nd a6 a7 s6 C6 A6 N6 P6 c9 a9 s9 C9 EQ f4 n4
          go_wp2_with fail
          go_ret
          obtain ⟨EQ, a9, s9, C9⟩ := H9.out
          rw [HI.out, EQ]
          exact ⟨rfl, a9, s9, C9⟩
        · have c2' : decide (d2 < 0) = false := decide_eq_false c2
          go_wp2_with fail
          refine (rotRt_calls (.node g b bs' l' r' h1) w3 HA1.out HN.out ⟨HGD.out.1, HGD.out.2.1⟩ HG1.out.2 (by rw [HSH.out]; exact ⟨_, _, _, _, _, _, _, _, _, _, _, rfl⟩)).mono ?_
          rintro e w7 ⟨rfl, a9, c9⟩
          have EQ : balT g b bs' l' r' = rotRt (.node g b bs' l' r' h1) := by
            unfold balT
            simp only
            rw [if_pos (show 1 < l'.ht - r'.ht by have h := HD.out; rw [show bF (.node g b bs' l' r' h1) = l'.ht - r'.ht from rfl] at h; omega), if_neg (show ¬ bF l' < 0 by rw [← HD2.out]; exact of_decide_eq_false c2'), ← HH1.out]
          have C9 := HC1.out.trans c9 (fun x h => h) (fun x hx => HNS.out.2.2 x hx)
          have s9 : w7.heap[SS]? = _ := (c9.keep SS (Array.getElem?_eq_some_iff.1 HS1.out).1 (fun hh => (List.mem_cons.1 hh).elim (fun e => HNS.out.1 e) HNS.out.2.1)).trans HS1.out
          have H9 := Aside0.mk (And.intro EQ (And.intro a9 (And.intro s9 C9)))
          clear c9 a9 s9 C9 EQ nl nr fl fr c2
          go_wp2_with fail
          go_ret
          obtain ⟨EQ, a9, s9, C9⟩ := H9.out
          rw [HI.out, EQ]
          exact ⟨rfl, a9, s9, C9⟩
      · have c1' : decide (1 < d) = false := decide_eq_false c1
        by_cases c3 : d < -1
        · have c3' : decide (d < -1) = true := decide_eq_true c3
          obtain ⟨g1, b1, bs1, lx, rx, k1, hs⟩ := right_of (show (Tr.node g b bs' l' r' h1).good from HG1.out.1) (by rw [← HD.out]; omega)
          have HSH := Aside0.mk hs
          clear hs
          have esp : r'.pp = some ⟨g1, 0, none⟩ := by rw [HSH.out]; rfl
          rw [esp] at nr
          have HESP := Aside0.mk esp
          clear esp
          go_wp2_with fail
          have hbs := balF_calls r' w2 HA1.out.2.2.2 (bF_sz r' HGD.out.2.1 (by have := HGD.out.2.2; omega))
          rw [show r'.p = .pointer (some ⟨g1, 0, none⟩) by rw [Tr.p, HESP.out]] at hbs
          refine hbs.mono ?_
          clear hbs
          rintro e w3 ⟨rfl, rfl⟩
          obtain ⟨d2, hd2⟩ : ∃ d2, d2 = bF r' := ⟨_, rfl⟩
          rw [← hd2]
          have HD2 := Aside0.mk hd2
          clear hd2
          by_cases c2 : 0 < d2
          · have c2' : decide (0 < d2) = true := decide_eq_true c2
            obtain ⟨g3, b3, bs3, ly, ry, k3, ht⟩ := left_of (by rw [← HSH.out]; exact HGD.out.2.1 : (Tr.node g1 b1 bs1 lx rx k1).good) (by rw [← HSH.out, ← HD2.out]; omega)
            have hshape : ∃ g b bs o g2 b2 bs2 i p k2 h, r' = .node g b bs (.node g2 b2 bs2 p i k2) o h := ⟨_, _, _, _, _, _, _, _, _, _, _, by rw [HSH.out, ht]⟩
            have HSHP := Aside0.mk hshape
            clear ht hshape c2
            go_wp2_with fail
            have nd := List.nodup_cons.1 HN.out
            have hrc := rotRt_calls r' w3 HA1.out.2.2.2 (List.nodup_append.1 nd.2).2.1 (by rw [HSH.out]; have := HGD.out.2.1; rw [HSH.out] at this; exact ⟨this.2.1, this.2.2⟩) (by have := HGD.out.2.2; omega) HSHP.out
            rw [show r'.p = .pointer (some ⟨g1, 0, none⟩) by rw [Tr.p, HESP.out]] at hrc
            refine hrc.mono ?_
            clear hrc
            rintro e w4 ⟨rfl, a4, c4⟩
            have p4 := rotRt_bl r'
            have hgn : g ∉ r'.bl := fun hh => nd.1 (List.mem_append_right _ hh)
            have q4 : w4.heap[g]? = _ := (c4.keep g (Array.getElem?_eq_some_iff.1 HA1.out.2.1).1 hgn).trans HA1.out.2.1
            have a5 : l'.at w4 := at_keep c4 l' HA1.out.2.2.1 (fun y hy hy2 => (List.nodup_append.1 nd.2).2.2 y hy y hy2 rfl)
            have s4 : w4.heap[SS]? = _ := (c4.keep SS (Array.getElem?_eq_some_iff.1 HS1.out).1 (fun hh => HNS.out.2.1 (List.mem_append_right _ hh))).trans HS1.out
            have C4 := HC1.out.trans c4 (fun x h => h) (fun x hx => HNS.out.2.2 x (List.mem_cons_of_mem _ (List.mem_append_right _ hx)))
            have f4 := nd_free q4 34
            have n4 := nd_r q4 HA.out.1
            have H4 := Aside0.mk (And.intro a4 (And.intro a5 (And.intro q4 (And.intro s4 (And.intro C4 (And.intro p4 hgn))))))
            obtain ⟨g5, b5, bs5, l5, r5, k5, ht5⟩ := rotRt_shape HSHP.out
            have e5 : (rotRt r').pp = some ⟨g5, 0, none⟩ := by rw [ht5]; rfl
            rw [Tr.p, e5]
            have HE5 := Aside0.mk e5
            clear nd a4 a5 q4 s4 c4 C4 p4 hgn ht5 e5 nl nr fl fr
            go_wp2_with fail
            rw [show (Value.pointer (some ⟨g5, 0, none⟩)) = (rotRt r').p by rw [Tr.p, HE5.out], nd_setR H4.out.2.2.1 HA.out.1]
            obtain ⟨a4, a5, q4, s4, C4, p4, hgn⟩ := H4.out
            have c6 := Chg.row w4 g (cellsN b bs' l'.p (rotRt r').p h1)
            have q6 := setRow_heap w4 g _ (cellsN b bs' l'.p (rotRt r').p h1) _ _ q4
            have nd := List.nodup_cons.1 HN.out
            have a6 : (rotRt r').at (w4.setRow g (cellsN b bs' l'.p (rotRt r').p h1)) := at_keep c6 _ a4 (fun y hy => by simp; rintro rfl; exact hgn (p4.subset hy))
            have a7 : l'.at (w4.setRow g (cellsN b bs' l'.p (rotRt r').p h1)) := at_keep c6 _ a5 (fun y hy => by simp; rintro rfl; exact nd.1 (List.mem_append_left _ hy))
            have s6 : (w4.setRow g (cellsN b bs' l'.p (rotRt r').p h1)).heap[SS]? = _ := (setRow_other _ _ _ _ HNS.out.1).trans s4
            have C6 := C4.trans c6 (fun x h => h) (fun x hx => HNS.out.2.2 x (by rw [List.mem_singleton.1 hx]; exact List.mem_cons_self))
            have A6 : Tr.at (w4.setRow g (cellsN b bs' l'.p (rotRt r').p h1)) (.node g b bs' l' (rotRt r') h1) := ⟨HA.out.1, q6, a7, a6⟩
            have N6 : (Tr.bl (.node g b bs' l' (rotRt r') h1)).Nodup := (bl_node rfl (List.Perm.refl _) p4).nodup_iff.2 HN.out
            have P6 : (Tr.bl (.node g b bs' l' (rotRt r') h1)).Perm (g :: (l'.bl ++ r'.bl)) := bl_node (b := b) (b' := b) (bs := bs') (bs' := bs') (h := h1) (h' := h1) rfl (List.Perm.refl _) p4
            generalize w4.setRow g (cellsN b bs' l'.p (rotRt r').p h1) = W6 at A6 s6 C6 ⊢
            refine (rotLt_calls (.node g b bs' l' (rotRt r') h1) W6 A6 N6 ⟨HGD.out.1, rotRt_good _ HGD.out.2.1⟩ (by have := HGD.out.2.2; show l'.sz + (rotRt r').sz + 1 ≤ 20000; rw [rotRt_sz]; omega) (by obtain ⟨g9, b9, bs9, l9, r9, k9, hz9⟩ := rotRt_shape HSHP.out; rw [hz9]; exact ⟨_, _, _, _, _, _, _, _, _, _, _, rfl⟩)).mono ?_
            rintro e w7 ⟨rfl, a9, c9⟩
            have EQ : balT g b bs' l' r' = rotLt (.node g b bs' l' (rotRt r') h1) := by
              unfold balT
              simp only
              rw [if_neg (show ¬ 1 < l'.ht - r'.ht by have h := HD.out; rw [show bF (.node g b bs' l' r' h1) = l'.ht - r'.ht from rfl] at h; omega), if_pos (show l'.ht - r'.ht < -1 by have h := HD.out; rw [show bF (.node g b bs' l' r' h1) = l'.ht - r'.ht from rfl] at h; omega), if_pos (show 0 < bF r' by rw [← HD2.out]; exact of_decide_eq_true c2'), ← HH1.out]
            have C9 := C6.trans c9 (fun x h => h) (fun x hx => HNS.out.2.2 x (P6.subset hx))
            have s9 : w7.heap[SS]? = _ := (c9.keep SS (Array.getElem?_eq_some_iff.1 s6).1 (fun hh => (List.mem_cons.1 (P6.subset hh)).elim (fun e => HNS.out.1 e) HNS.out.2.1)).trans s6
            have H9 := Aside0.mk (And.intro EQ (And.intro a9 (And.intro s9 C9)))
            clear H4 a4 a5 q4 s4 C4 p4 hgn c6 q6 nd a6 a7 s6 C6 A6 N6 P6 c9 a9 s9 C9 EQ f4 n4
            go_wp2_with fail
            go_ret
            obtain ⟨EQ, a9, s9, C9⟩ := H9.out
            rw [HI.out, EQ]
            exact ⟨rfl, a9, s9, C9⟩
          · have c2' : decide (0 < d2) = false := decide_eq_false c2
            go_wp2_with fail
            refine (rotLt_calls (.node g b bs' l' r' h1) w3 HA1.out HN.out ⟨HGD.out.1, HGD.out.2.1⟩ HG1.out.2 (by rw [HSH.out]; exact ⟨_, _, _, _, _, _, _, _, _, _, _, rfl⟩)).mono ?_
            rintro e w7 ⟨rfl, a9, c9⟩
            have EQ : balT g b bs' l' r' = rotLt (.node g b bs' l' r' h1) := by
              unfold balT
              simp only
              rw [if_neg (show ¬ 1 < l'.ht - r'.ht by have h := HD.out; rw [show bF (.node g b bs' l' r' h1) = l'.ht - r'.ht from rfl] at h; omega), if_pos (show l'.ht - r'.ht < -1 by have h := HD.out; rw [show bF (.node g b bs' l' r' h1) = l'.ht - r'.ht from rfl] at h; omega), if_neg (show ¬ 0 < bF r' by rw [← HD2.out]; exact of_decide_eq_false c2'), ← HH1.out]
            have C9 := HC1.out.trans c9 (fun x h => h) (fun x hx => HNS.out.2.2 x hx)
            have s9 : w7.heap[SS]? = _ := (c9.keep SS (Array.getElem?_eq_some_iff.1 HS1.out).1 (fun hh => (List.mem_cons.1 hh).elim (fun e => HNS.out.1 e) HNS.out.2.1)).trans HS1.out
            have H9 := Aside0.mk (And.intro EQ (And.intro a9 (And.intro s9 C9)))
            clear c9 a9 s9 C9 EQ nl nr fl fr c2
            go_wp2_with fail
            go_ret
            obtain ⟨EQ, a9, s9, C9⟩ := H9.out
            rw [HI.out, EQ]
            exact ⟨rfl, a9, s9, C9⟩
        · have c3' : decide (d < -1) = false := decide_eq_false c3
          have EQ : balT g b bs' l' r' = .node g b bs' l' r' h1 := by
            unfold balT
            simp only
            have h := HD.out
            rw [show bF (.node g b bs' l' r' h1) = l'.ht - r'.ht from rfl] at h
            rw [if_neg (show ¬ 1 < l'.ht - r'.ht by omega), if_neg (show ¬ l'.ht - r'.ht < -1 by omega), ← HH1.out]
          have H9 := Aside0.mk (And.intro EQ (And.intro HA1.out (And.intro HS1.out HC1.out)))
          clear EQ nl nr fl fr c1 c3
          go_wp2_with fail
          go_ret
          obtain ⟨EQ, a9, s9, C9⟩ := H9.out
          rw [HI.out, EQ]
          exact ⟨rfl, a9, s9, C9⟩
/-- A number put into a node that is there: no turns. -/
def setT (s : Nat) : Tr → Tr
  | .nil => .nil
  | .node g b bs l r h => if s < b then .node g b bs (setT s l) r h else if b + 2048 ≤ s then .node g b bs l (setT s r) h else .node g b (if hasB bs (s - b) = true then bs else putB bs (s - b)) l r h
def addT (n s : Nat) (t : Tr) : Tr := if ndT s t = true then setT s t else insT n s t
/-- The search for s in a tree comes by u. -/
def On (s : Nat) (u : Tr) : Tr → Prop
  | .nil => False
  | .node g b bs l r h => .node g b bs l r h = u ∨ (s < b ∧ On s u l) ∨ (¬ s < b ∧ b + 2048 ≤ s ∧ On s u r)
theorem On_left {s : Nat} {g b : Nat} {bs : List Nat} {l r : Tr} {h : Int} (c : s < b) (hl : l ≠ .nil) : ∀ t : Tr, On s (.node g b bs l r h) t → On s l t
  | .nil, h => h
  | .node g0 b0 bs0 l0 r0 h0, hh => by
    rcases hh with e | ⟨c1, e⟩ | ⟨c1, c2, e⟩
    · cases e
      refine .inr (.inl ⟨c, ?_⟩)
      cases l with
      | nil => exact absurd rfl hl
      | node _ _ _ _ _ _ => exact .inl rfl
    · exact .inr (.inl ⟨c1, On_left c hl l0 e⟩)
    · exact .inr (.inr ⟨c1, c2, On_left c hl r0 e⟩)
theorem On_right {s : Nat} {g b : Nat} {bs : List Nat} {l r : Tr} {h : Int} (c : ¬ s < b) (c2 : b + 2048 ≤ s) (hr : r ≠ .nil) : ∀ t : Tr, On s (.node g b bs l r h) t → On s r t
  | .nil, h => h
  | .node g0 b0 bs0 l0 r0 h0, hh => by
    rcases hh with e | ⟨c1, e⟩ | ⟨c1, c3, e⟩
    · cases e
      refine .inr (.inr ⟨c, c2, ?_⟩)
      cases r with
      | nil => exact absurd rfl hr
      | node _ _ _ _ _ _ => exact .inl rfl
    · exact .inr (.inl ⟨c1, On_right c c2 hr l0 e⟩)
    · exact .inr (.inr ⟨c1, c3, On_right c c2 hr r0 e⟩)
theorem On_bl {s g b : Nat} {bs : List Nat} {l r : Tr} {h : Int} : ∀ t : Tr, On s (.node g b bs l r h) t → g ∈ t.bl
  | .nil, h => h.elim
  | .node g0 b0 bs0 l0 r0 h0, hh => by
    rcases hh with e | ⟨_, e⟩ | ⟨_, _, e⟩
    · cases e; exact List.mem_cons_self
    · exact List.mem_cons_of_mem _ (List.mem_append_left _ (On_bl l0 e))
    · exact List.mem_cons_of_mem _ (List.mem_append_right _ (On_bl r0 e))
theorem setT_pp (s : Nat) : ∀ t : Tr, (setT s t).pp = t.pp
  | .nil => rfl
  | .node g b bs l r h => by
    unfold setT
    split
    · rfl
    · split <;> rfl
theorem setT_bl (s : Nat) : ∀ t : Tr, (setT s t).bl = t.bl
  | .nil => rfl
  | .node g b bs l r h => by
    have h1 := setT_bl s l
    have h2 := setT_bl s r
    unfold setT
    split
    · simp only [Tr.bl, h1]
    · split
      · simp only [Tr.bl, h2]
      · rfl
theorem Chg_drew (w : World) : Chg [] w w.drew := ⟨rfl, rfl, rfl, Nat.le_refl _, fun _ _ _ => rfl⟩
theorem set_at {w w' : World} {SS s g b : Nat} {bs : List Nat} {l r : Tr} {h : Int} (hc : Chg [g, SS] w w') (c1 : ¬ s < b) (c2 : ¬ b + 2048 ≤ s)
    (hg : w'.heap[g]? = some (.cells (cellsN b (if hasB bs (s - b) = true then bs else putB bs (s - b)) l.p r.p h) 88 (0, 0))) :
    ∀ t : Tr, t.at w → t.bl.Nodup → SS ∉ t.bl → On s (.node g b bs l r h) t → (setT s t).at w'
  | .nil, _, _, _, ho => ho.elim
  | .node g0 b0 bs0 l0 r0 h0, ha, hnd, hS, ho => by
    have nd := List.nodup_cons.1 hnd
    have nd2 := List.nodup_append.1 nd.2
    have hsl : SS ∉ l0.bl := fun e => hS (List.mem_cons_of_mem _ (List.mem_append_left _ e))
    have hsr : SS ∉ r0.bl := fun e => hS (List.mem_cons_of_mem _ (List.mem_append_right _ e))
    have hsg : g0 ≠ SS := fun e => hS (by rw [← e]; exact List.mem_cons_self)
    rcases ho with e | ⟨d1, e⟩ | ⟨d1, d2, e⟩
    · cases e
      rw [setT, if_neg c1, if_neg c2]
      refine ⟨?_, hg, at_keep hc _ ha.2.2.1 (fun y hy hh => ?_), at_keep hc _ ha.2.2.2 (fun y hy hh => ?_)⟩
      · split
        · exact ha.1
        · rw [putB, List.length_set]; exact ha.1
      · rcases List.mem_cons.1 hh with rfl | hh
        · exact nd.1 (List.mem_append_left _ hy)
        · rw [List.mem_singleton.1 hh] at hy; exact hsl hy
      · rcases List.mem_cons.1 hh with rfl | hh
        · exact nd.1 (List.mem_append_right _ hy)
        · rw [List.mem_singleton.1 hh] at hy; exact hsr hy
    · have hgl := On_bl l0 e
      rw [setT, if_pos d1]
      have hne : g0 ≠ g := fun e2 => nd.1 (by rw [e2]; exact List.mem_append_left _ hgl)
      refine ⟨ha.1, ?_, set_at hc c1 c2 hg l0 ha.2.2.1 nd2.1 hsl e, at_keep hc _ ha.2.2.2 (fun y hy hh => ?_)⟩
      · rw [Tr.p, setT_pp]
        exact (hc.keep g0 (Array.getElem?_eq_some_iff.1 ha.2.1).1 (by simp [hne, hsg])).trans ha.2.1
      · rcases List.mem_cons.1 hh with rfl | hh
        · exact nd2.2.2 _ hgl _ hy rfl
        · rw [List.mem_singleton.1 hh] at hy; exact hsr hy
    · have hgr := On_bl r0 e
      rw [setT, if_neg d1, if_pos d2]
      have hne : g0 ≠ g := fun e2 => nd.1 (by rw [e2]; exact List.mem_append_right _ hgr)
      refine ⟨ha.1, ?_, at_keep hc _ ha.2.2.1 (fun y hy hh => ?_), set_at hc c1 c2 hg r0 ha.2.2.2 nd2.2.1 hsr e⟩
      · have := setT_pp s r0
        rw [show (setT s r0).p = r0.p by rw [Tr.p, this]]
        exact (hc.keep g0 (Array.getElem?_eq_some_iff.1 ha.2.1).1 (by simp [hne, hsg])).trans ha.2.1
      · rcases List.mem_cons.1 hh with rfl | hh
        · exact nd2.2.2 _ hy _ hgr rfl
        · rw [List.mem_singleton.1 hh] at hy; exact hsl hy
set_option maxHeartbeats 16000000 in
set_option maxRecDepth 100000 in
theorem Insert_calls (t : Tr) (SS : Nat) (sz nn : Int) (s : Nat) (w : World) (ha : t.at w) (hnd : t.bl.Nodup) (hg : t.good) (hsz : t.sz ≤ 10000) (hf : t.fit) (hS : w.heap[SS]? = some (.cells (ssC t.p sz nn false) 84 (0, 0))) (hSS : SS ∉ t.bl) (hs : s + 2048 ≤ 18446744073709551616) (hnn : 0 ≤ nn ∧ nn ≤ 1000000) (hz : 0 ≤ sz ∧ sz ≤ 1000000) :
    Calls Tryd.prog 51 #[.pointer (some ⟨SS, 0, none⟩), .int .u64 (s : Int)] w fun e w' => e = .returned (.tuple #[]) ∧ (addT w.heap.size s t).at w' ∧
      w'.heap[SS]? = some (.cells (ssC (addT w.heap.size s t).p (sz + if inT s t = true then 0 else 1) (nn + if ndT s t = true then 0 else 1) false) 84 (0, 0)) ∧ Chg (SS :: t.bl) w w' := by
  have c0 : w.cell? ⟨SS, 0, none⟩ = some (.pointer t.pp) := (cell_of_row w SS 0 _ _ _ hS).trans rfl
  obtain ⟨q, hq⟩ : ∃ z, z = inT s t := ⟨_, rfl⟩
  obtain ⟨qn, hqn⟩ : ∃ z, z = ndT s t := ⟨_, rfl⟩
  obtain ⟨sz2, hsz2⟩ : ∃ z : Int, z = sz + if inT s t = true then 0 else 1 := ⟨_, rfl⟩
  obtain ⟨nn2, hnn2⟩ : ∃ z : Int, z = nn + if ndT s t = true then 0 else 1 := ⟨_, rfl⟩
  rw [← hsz2, ← hnn2]
  have HQ := Aside0.mk (And.intro hq (And.intro hqn (And.intro hsz2 hnn2)))
  have HA := Aside0.mk (And.intro ha hf)
  have HT := Aside0.mk (And.intro hnd (And.intro hg (And.intro hsz (And.intro hS hSS))))
  have HS := Aside0.mk (And.intro hs (And.intro hnn hz))
  clear ha hf hS hs hq hqn hsz2 hnn2 hnd hg hsz hSS hnn hz
  go_enter Tryd.func51, Tryd.ntmps51
  go_wp2_with fail
  go_loopg [4] (t.sz + 1) (fun kq v4 w' => ∃ u : Tr, v4 = .pointer u.pp ∧ Aside0 (u.at w ∧ u.fit) ∧ Aside0 (inT s u = q ∧ ndT s u = qn) ∧ Aside0 (u = .nil ∨ On s u t) ∧ Aside0 (u.sz < kq) ∧ w' = w)
  case atStart =>
    refine ⟨t, rfl, HA, ⟨HQ.out.1.symm, HQ.out.2.1.symm⟩, ⟨?_⟩, ⟨Nat.lt_succ_self _⟩, rfl⟩
    cases t with
    | nil => exact .inl rfl
    | node _ _ _ _ _ _ => exact .inr (.inl rfl)
  case round =>
    obtain ⟨u, rfl, HU, HI, HON, HK, hwr⟩ := hrel
    subst hwr
    cases gk with
    | zero => exact absurd HK.out (by omega)
    | succ k1 =>
    cases u with
    | nil =>
      rw [show (Tr.nil).pp = none from rfl]
      go_wp2_with fail
      refine start_ (n := 16) (S := fun w' => w'.cell? ⟨SS, 0, none⟩ = some (.pointer t.pp)) (ds := [15]) #[false, false, false, false, false, false, false, false, false, false, false, false, false, false, false, false] (by kernel_rfl) rfl rfl c0 (fun hHeld => ?_)
      refine pure_ (i := 0) (N := some 52) (v := ?_) (a' := ?_) #[true, false, false, false, false, false, false, false, false, false, false, false, false, false, false, false] rfl rfl (by kernel_rfl) (fun _ _ _ h => h) (Or.inl ⟨by rfl, ?_⟩) ?_ ?_
      rotate_left
      · intro w'
        go_simp
        with_reducible rfl
      rotate_left
      · simp only [Act.put, List.setIfInBounds_toArray, List.set_cons_zero, List.set_cons_succ, i64_w, i32_w]
        rfl
      refine pure_ (i := 1) (N := some 53) (v := ?_) (a' := ?_) #[true, true, false, false, false, false, false, false, false, false, false, false, false, false, false, false] rfl rfl (by kernel_rfl) (fun _ _ _ h => h) (Or.inl ⟨by rfl, ?_⟩) ?_ ?_
      rotate_left
      · intro w'
        go_simp
        with_reducible rfl
      rotate_left
      · simp only [Act.put, List.setIfInBounds_toArray, List.set_cons_zero, List.set_cons_succ, i64_w, i32_w]
        rfl
      refine pure_ (i := 2) (N := some 54) (v := ?_) (a' := ?_) #[true, true, true, false, false, false, false, false, false, false, false, false, false, false, false, false] rfl rfl (by kernel_rfl) (fun _ _ _ h => h) (Or.inl ⟨by rfl, ?_⟩) ?_ ?_
      rotate_left
      · intro w'
        go_simp
        with_reducible rfl
      rotate_left
      · simp only [Act.put, List.setIfInBounds_toArray, List.set_cons_zero, List.set_cons_succ, i64_w, i32_w]
        rfl
      refine pure_ (i := 3) (N := some 55) (v := ?_) (a' := ?_) #[true, true, true, true, false, false, false, false, false, false, false, false, false, false, false, false] rfl rfl (by kernel_rfl) (fun _ _ _ h => h) (Or.inl ⟨by rfl, ?_⟩) ?_ ?_
      rotate_left
      · intro w'
        go_simp
        with_reducible rfl
      rotate_left
      · simp only [Act.put, List.setIfInBounds_toArray, List.set_cons_zero, List.set_cons_succ, i64_w, i32_w]
        rfl
      refine take_ (i := 4) (N := some 56) (v := ?_) (a' := ?_) #[true, true, true, true, true, false, false, false, false, false, false, false, false, false, false, false] rfl rfl (by kernel_rfl) (fun _ _ _ h => h) (Or.inl ⟨by rfl, ?_⟩) hHeld ?_ ?_
      rotate_left
      · intro w' hS'
        go_simp
        with_reducible rfl
      rotate_left
      · simp only [Act.put, List.setIfInBounds_toArray, List.set_cons_zero, List.set_cons_succ, i64_w, i32_w]
        rfl
      refine pure_ (i := 5) (N := some 57) (v := ?_) (a' := ?_) #[true, true, true, true, true, true, false, false, false, false, false, false, false, false, false, false] rfl rfl (by kernel_rfl) (fun _ _ _ h => h) (Or.inl ⟨by rfl, ?_⟩) ?_ ?_
      rotate_left
      · intro w'
        go_simp
        with_reducible rfl
      rotate_left
      · simp only [Act.put, List.setIfInBounds_toArray, List.set_cons_zero, List.set_cons_succ, i64_w, i32_w]
        rfl
      refine pure_ (i := 6) (N := some 58) (v := ?_) (a' := ?_) #[true, true, true, true, true, true, true, false, false, false, false, false, false, false, false, false] rfl rfl (by kernel_rfl) (fun _ _ _ h => h) (Or.inl ⟨by rfl, ?_⟩) ?_ ?_
      rotate_left
      · intro w'
        go_simp
        with_reducible rfl
      rotate_left
      · simp only [Act.put, List.setIfInBounds_toArray, List.set_cons_zero, List.set_cons_succ, i64_w, i32_w]
        rfl
      refine pure_ (i := 7) (N := some 59) (v := ?_) (a' := ?_) #[true, true, true, true, true, true, true, true, false, false, false, false, false, false, false, false] rfl rfl (by kernel_rfl) (fun _ _ _ h => h) (Or.inl ⟨by rfl, ?_⟩) ?_ ?_
      rotate_left
      · intro w'
        go_simp
        with_reducible rfl
      rotate_left
      · simp only [Act.put, List.setIfInBounds_toArray, List.set_cons_zero, List.set_cons_succ, i64_w, i32_w]
        rfl
      refine pure_ (i := 8) (N := some 60) (v := ?_) (a' := ?_) #[true, true, true, true, true, true, true, true, true, false, false, false, false, false, false, false] rfl rfl (by kernel_rfl) (fun _ _ _ h => h) (Or.inl ⟨by rfl, ?_⟩) ?_ ?_
      rotate_left
      · intro w'
        go_simp
        with_reducible rfl
      rotate_left
      · simp only [Act.put, List.setIfInBounds_toArray, List.set_cons_zero, List.set_cons_succ, i64_w, i32_w]
        rfl
      refine pure_ (i := 9) (N := some 61) (v := ?_) (a' := ?_) #[true, true, true, true, true, true, true, true, true, true, false, false, false, false, false, false] rfl rfl (by kernel_rfl) (fun _ _ _ h => h) (Or.inl ⟨by rfl, ?_⟩) ?_ ?_
      rotate_left
      · intro w'
        go_simp
        with_reducible rfl
      rotate_left
      · simp only [Act.put, List.setIfInBounds_toArray, List.set_cons_zero, List.set_cons_succ, i64_w, i32_w]
        rfl
      refine pure_ (i := 10) (N := some 62) (v := ?_) (a' := ?_) #[true, true, true, true, true, true, true, true, true, true, true, false, false, false, false, false] rfl rfl (by kernel_rfl) (fun _ _ _ h => h) (Or.inl ⟨by rfl, ?_⟩) ?_ ?_
      rotate_left
      · intro w'
        go_simp
        with_reducible rfl
      rotate_left
      · simp only [Act.put, List.setIfInBounds_toArray, List.set_cons_zero, List.set_cons_succ, i64_w, i32_w]
        rfl
      refine pure_ (i := 11) (N := some 63) (v := ?_) (a' := ?_) #[true, true, true, true, true, true, true, true, true, true, true, true, false, false, false, false] rfl rfl (by kernel_rfl) (fun _ _ _ h => h) (Or.inl ⟨by rfl, ?_⟩) ?_ ?_
      rotate_left
      · intro w'
        go_simp
        with_reducible rfl
      rotate_left
      · simp only [Act.put, List.setIfInBounds_toArray, List.set_cons_zero, List.set_cons_succ, i64_w, i32_w]
        rfl
      refine one_ (i := 12) (N := some 64) #[true, true, true, true, true, true, true, true, true, true, true, true, true, false, false, false] rfl rfl (by kernel_rfl) (by decide) (fun K hK => ?_)
      refine goes_ Tryd.func71 (by kernel_rfl) rfl #[.pointer t.pp, .int .u64 (s : Int), .pointer (some ⟨SS, 3, none⟩), .pointer (some ⟨SS, 2, none⟩)] (by rfl) rfl rfl (by simp only [List.map_toArray, List.map_cons, List.map_nil]; rfl) ?_
      refine (insert_calls s SS t.p sz nn false HS.out.1 HS.out.2.1 t wr.drew (at_keep (Chg_drew wr) t HA.out.1 (by simp)) HT.out.1 HT.out.2.1 HT.out.2.2.1 HA.out.2 HT.out.2.2.2.1 HT.out.2.2.2.2).mono ?_
      rintro e w4 ⟨rfl, a4, s4, c4⟩
      refine ⟨_, rfl, ?_⟩
      have k4 : w4.cell? ⟨SS, 0, none⟩ = some (.pointer t.pp) := (cell_of_row w4 SS 0 _ _ _ s4).trans rfl
      refine hK.out _ _ k4 (fun hHeld => ?_)
      clear hK K
      refine norm_ (a' := ?_) ?_ ?_
      rotate_left
      · show Act.put _ (some 64) _ = _
        simp only [Act.put, List.setIfInBounds_toArray, List.set_cons_zero, List.set_cons_succ, i64_w, i32_w]
        rfl
      refine pure_ (i := 13) (N := some 65) (v := ?_) (a' := ?_) #[true, true, true, true, true, true, true, true, true, true, true, true, true, true, false, false] rfl rfl (by kernel_rfl) (fun _ _ _ h => h) (Or.inl ⟨by rfl, ?_⟩) ?_ ?_
      rotate_left
      · intro w'
        go_simp
        with_reducible rfl
      rotate_left
      · simp only [Act.put, List.setIfInBounds_toArray, List.set_cons_zero, List.set_cons_succ, i64_w, i32_w]
        rfl
      refine pure_ (i := 14) (N := some 66) (v := ?_) (a' := ?_) #[true, true, true, true, true, true, true, true, true, true, true, true, true, true, true, false] rfl rfl (by kernel_rfl) (fun _ _ _ h => h) (Or.inl ⟨by rfl, ?_⟩) ?_ ?_
      rotate_left
      · intro w'
        go_simp
        with_reducible rfl
      rotate_left
      · simp only [Act.put, List.setIfInBounds_toArray, List.set_cons_zero, List.set_cons_succ, i64_w, i32_w]
        rfl
      have f4 : w4.frozen? ⟨SS, 0, none⟩ = false := by simp [World.frozen?, s4]
      refine last_ (i := 15) (N := none) #[true, true, true, true, true, true, true, true, true, true, true, true, true, true, true, true] rfl rfl (by kernel_rfl) (by decide) (fun K hK => ?_)
      refine skip_ (w1 := ?_) (by rfl) rfl ?_ ?_
      rotate_left
      · go_simp
        rfl
      refine hK.out _ _ ?_
      clear hK K
      refine done_ (by kernel_rfl) ?_
      have hI : q = false ∧ qn = false := ⟨HI.out.1.symm, HI.out.2.symm⟩
      obtain ⟨rfl, rfl⟩ := hI
      have hs2 : sz2 = sz + 1 := by have h1 := HQ.out.2.2.1; rw [← HQ.out.1, if_neg (by decide)] at h1; omega
      have s5 : w4.heap[SS]? = some (.cells (ssC t.p sz nn2 true) 84 (0, 0)) := by
        have hn2 : nn2 = nn + 1 := by have h1 := HQ.out.2.2.2; rw [← HQ.out.2.1, if_neg (by decide)] at h1; omega
        rw [s4, ← HQ.out.1, ← HQ.out.2.1, hn2]
        rfl
      have hAD : addT wr.heap.size s t = insT wr.heap.size s t := by rw [addT, ← HQ.out.2.1, if_neg (by decide)]
      have ew : wrap64 (sz + 1) = sz2 := by rw [hs2]; exact Road.w64 _ _ rfl (by have := HS.out; omega) (by have := HS.out; omega)
      obtain ⟨T, hT⟩ : ∃ T, T = insT wr.heap.size s t := ⟨_, rfl⟩
      have hTbl : ∀ x ∈ T.bl, x ∈ t.bl ∨ x = wr.heap.size := by rw [hT]; exact insT_sub _ _ _
      rw [← hT] at hAD
      have HAD := Aside0.mk hAD
      replace a4 : T.at w4 := by rw [hT]; exact a4
      have E1 : w4.setCell ⟨SS, 0, none⟩ (.pointer T.pp) = w4.setRow SS (ssC T.p sz nn2 true) := setCell_eq_setRow w4 SS 0 _ _ _ _ s5
      have hSlt : SS < wr.heap.size := (Array.getElem?_eq_some_iff.1 HT.out.2.2.2.1).1
      have hST : SS ∉ T.bl := fun hh => (hTbl SS hh).elim HT.out.2.2.2.2 (fun e => by omega)
      rw [show (insT wr.heap.size s t).pp = T.pp by rw [hT], E1]
      have s6 := setRow_heap w4 SS _ (ssC T.p sz nn2 true) _ _ s5
      have a6 : T.at (w4.setRow SS (ssC T.p sz nn2 true)) := at_keep (Chg.row w4 SS _) _ a4 (fun y hy hh => hST (by rw [← List.mem_singleton.1 hh]; exact hy))
      have c4' : Chg (SS :: t.bl) wr w4 := (Chg_drew wr).trans c4 (by simp) (fun x hx _ => hx)
      have c6 : Chg (SS :: t.bl) wr (w4.setRow SS (ssC T.p sz nn2 true)) := c4'.trans (Chg.row w4 SS _) (fun x h => h) (fun x hx _ => by rw [List.mem_singleton.1 hx]; exact List.mem_cons_self)
      generalize w4.setRow SS (ssC T.p sz nn2 true) = w6 at s6 a6 c6 ⊢
      have H6 := Aside0.mk (And.intro s6 (And.intro a6 (And.intro c6 (And.intro ew (And.intro hST hs2)))))
      have k3 : w6.cell? ⟨SS, 3, none⟩ = some (.bool true) := (cell_of_row w6 SS 3 _ _ _ s6).trans rfl
      have k1' : w6.cell? ⟨SS, 1, none⟩ = some (.int .i64 sz) := (cell_of_row w6 SS 1 _ _ _ s6).trans rfl
      have f3 : w6.frozen? ⟨SS, 3, none⟩ = false := by simp [World.frozen?, s6]
      have f1 : w6.frozen? ⟨SS, 1, none⟩ = false := by simp [World.frozen?, s6]
      clear s4 s5 hAD hs2 ew a4 E1 hSlt hST s6 a6 c6 hT hTbl c4 c4' k4 f4 c0
      try clear hHeld
      go_wp2_with fail
      go_end0
      obtain ⟨s6, a6, c6, ew, hST, hs2⟩ := H6.out
      have E1 := setCell_eq_setRow w6 SS 3 _ 84 (0, 0) (.bool false) s6
      have g5 := setRow_heap w6 SS _ ((ssC T.p sz nn2 true).setIfInBounds 3 (.bool false)) _ _ s6
      have E2 := setCell_eq_setRow (w6.setRow SS ((ssC T.p sz nn2 true).setIfInBounds 3 (.bool false))) SS 1 _ 84 (0, 0) (.int .i64 sz2) g5
      rw [ew, E1, E2, setRow_setRow, HAD.out]
      refine ⟨rfl, at_keep (Chg.row w6 SS _) _ a6 (fun y hy hh => hST (by rw [← List.mem_singleton.1 hh]; exact hy)), ?_, c6.trans (Chg.row w6 SS _) (fun x hx => hx) (fun x hx _ => by rw [List.mem_singleton.1 hx]; exact List.mem_cons_self)⟩
      rw [setRow_heap _ _ _ _ _ _ s6]
      rfl
    | node g b bs l r h0 =>
      rw [show (Tr.node g b bs l r h0).pp = some ⟨g, 0, none⟩ from rfl]
      have q1 := nd_base HU.out.1.2.1
      have kl : wr.cell? ⟨g, 33, none⟩ = some (.pointer l.pp) := nd_l HU.out.1.2.1 HU.out.1.1
      have kr : wr.cell? ⟨g, 34, none⟩ = some (.pointer r.pp) := nd_r HU.out.1.2.1 HU.out.1.1
      obtain ⟨b2, hbb⟩ : ∃ b2, b2 = b + 2048 := ⟨_, rfl⟩
      have hb2 : IntKind.u64.wrap ((b : Int) + 2048) = (b2 : Int) := Road.wu64 _ _ (by omega) (by omega) (by have := HU.out.2.1; omega)
      have HBB := Aside0.mk hbb
      have hkz : l.sz + r.sz + 1 < k1 + 1 := HK.out
      have HKZ := Aside0.mk hkz
      have hon : On s (.node g b bs l r h0) t := HON.out.resolve_left (by simp)
      have HON2 := Aside0.mk hon
      clear hbb hkz hon
      by_cases c : s < b
      · have c1 : decide ((s : Int) < (b : Int)) = true := decide_eq_true (by omega)
        have c2 : decide (s < b) = true := decide_eq_true c
        have HI2 := Aside0.mk (show inT s l = q ∧ ndT s l = qn by have := HI.out; rwa [inT, ndT, if_pos c, if_pos c] at this)
        have HO2 := Aside0.mk (show l = .nil ∨ On s l t from (Classical.em (l = .nil)).imp_right (fun hl => On_left c hl t HON2.out))
        clear c
        go_wp2_with fail
        go_roundg k1
        case measure => omega
        case rel => exact ⟨l, rfl, ⟨HU.out.1.2.2.1, HU.out.2.2.2.1⟩, HI2, HO2, ⟨by have := HKZ.out; omega⟩, rfl⟩
      · have c1 : decide ((s : Int) < (b : Int)) = false := decide_eq_false (by omega)
        have c2 : decide (s < b) = false := decide_eq_false c
        by_cases d : b2 ≤ s
        · have d1 : decide ((b2 : Int) ≤ (s : Int)) = true := decide_eq_true (by omega)
          have d2 : decide (b2 ≤ s) = true := decide_eq_true d
          have d3 : b + 2048 ≤ s := by have := HBB.out; omega
          have HI2 := Aside0.mk (show inT s r = q ∧ ndT s r = qn by have := HI.out; rwa [inT, ndT, if_neg c, if_pos d3, if_neg c, if_pos d3] at this)
          have HO2 := Aside0.mk (show r = .nil ∨ On s r t from (Classical.em (r = .nil)).imp_right (fun hl => On_right c d3 hl t HON2.out))
          clear c d d3
          go_wp2_with fail
          go_roundg k1
          case measure => omega
          case rel => exact ⟨r, rfl, ⟨HU.out.1.2.2.2, HU.out.2.2.2.2⟩, HI2, HO2, ⟨by have := HKZ.out; omega⟩, rfl⟩
        · have d1 : decide ((b2 : Int) ≤ (s : Int)) = false := decide_eq_false (by omega)
          have d2 : decide (b2 ≤ s) = false := decide_eq_false d
          have d3 : ¬ b + 2048 ≤ s := by have := HBB.out; omega
          have hI2 : q = hasB bs (s - b) ∧ qn = true := by have := HI.out; rw [inT, ndT, if_neg c, if_neg d3, if_neg c, if_neg d3] at this; exact ⟨this.1.symm, this.2.symm⟩
          have HI2 := Aside0.mk (And.intro hI2 (And.intro c d3))
          have hgS : g ≠ SS := fun e => HT.out.2.2.2.2 (by rw [← e]; exact On_bl t HON2.out)
          have HGS := Aside0.mk hgS
          clear c d hI2 d3 hgS
          go_wp2_with fail
          refine (set_calls g b bs l.p r.p h0 SS t.p sz nn false s wr HU.out.1.1 HU.out.1.2.1 HT.out.2.2.2.1 HGS.out (by have := HI2.out.2.1; omega) (by have := HI2.out.2.2; omega) (by have := HS.out; omega) HU.out.2.2.1 q HI2.out.1.1).mono ?_
          rintro e w4 ⟨rfl, g4, s4, c4⟩
          have HA4 := Aside0.mk (set_at c4 HI2.out.2.1 HI2.out.2.2 (by rw [← HI2.out.1.1]; exact g4) t HA.out.1 HT.out.1 HT.out.2.2.2.2 HON2.out)
          have H4 := Aside0.mk (And.intro s4 c4)
          have hA : addT wr.heap.size s t = setT s t := by rw [addT, ← HQ.out.2.1, HI2.out.1.2, if_pos rfl]
          have HAD := Aside0.mk hA
          have hnz : nn2 = nn := by have h1 := HQ.out.2.2.2; rw [← HQ.out.2.1, HI2.out.1.2, if_pos rfl] at h1; omega
          have HNZ := Aside0.mk hnz
          clear g4 s4 c4 hA hnz
          cases q with
          | true =>
            have k3 : w4.cell? ⟨SS, 3, none⟩ = some (.bool false) := (cell_of_row w4 SS 3 _ _ _ H4.out.1).trans rfl
            go_wp2_with fail
            refine bodyPost_ret (results_none rfl _ _ _) rfl ?_
            obtain ⟨s4, c4⟩ := H4.out
            have hs2 : sz2 = sz := by have h1 := HQ.out.2.2.1; rw [← HQ.out.1, if_pos rfl] at h1; omega
            rw [HAD.out, hs2, HNZ.out]
            refine ⟨rfl, HA4.out, ?_, c4.mono (fun x hx => ?_)⟩
            · rw [Tr.p, setT_pp]; exact s4
            · rcases List.mem_cons.1 hx with rfl | hx
              · exact List.mem_cons_of_mem _ (On_bl t HON2.out)
              · rw [List.mem_singleton.1 hx]; exact List.mem_cons_self
          | false =>
            have k3 : w4.cell? ⟨SS, 3, none⟩ = some (.bool true) := (cell_of_row w4 SS 3 _ _ _ H4.out.1).trans rfl
            have k1' : w4.cell? ⟨SS, 1, none⟩ = some (.int .i64 sz) := (cell_of_row w4 SS 1 _ _ _ H4.out.1).trans rfl
            have f3 : w4.frozen? ⟨SS, 3, none⟩ = false := by simp [World.frozen?, H4.out.1]
            have f1 : w4.frozen? ⟨SS, 1, none⟩ = false := by simp [World.frozen?, H4.out.1]
            go_wp2_with fail
            refine bodyPost_ret (results_none rfl _ _ _) rfl ?_
            obtain ⟨s4, c4⟩ := H4.out
            have hs2 : sz2 = sz + 1 := by have h1 := HQ.out.2.2.1; rw [← HQ.out.1, if_neg (by decide)] at h1; omega
            have ew : wrap64 (sz + 1) = sz2 := by rw [hs2]; exact Road.w64 _ _ rfl (by have := HS.out; omega) (by have := HS.out; omega)
            rw [HAD.out, HNZ.out, ew]
            have E1 := setCell_eq_setRow w4 SS 3 _ 84 (0, 0) (.bool false) s4
            have g5 := setRow_heap w4 SS _ ((ssC t.p sz nn (if false = true then false else true)).setIfInBounds 3 (.bool false)) _ _ s4
            have E2 := setCell_eq_setRow (w4.setRow SS ((ssC t.p sz nn (if false = true then false else true)).setIfInBounds 3 (.bool false))) SS 1 _ 84 (0, 0) (.int .i64 sz2) g5
            rw [E1, E2, setRow_setRow]
            have hgn : SS ∉ (setT s t).bl := by
              rw [show (setT s t).bl = t.bl from setT_bl s t]
              exact HT.out.2.2.2.2
            refine ⟨rfl, at_keep (Chg.row w4 SS _) _ HA4.out (fun y hy hh => hgn (by rw [← List.mem_singleton.1 hh]; exact hy)), ?_, c4.trans (Chg.row w4 SS _) (fun x hx => ?_) (fun x hx _ => by rw [List.mem_singleton.1 hx]; exact List.mem_cons_self)⟩
            · rw [setRow_heap _ _ _ _ _ _ s4, show (setT s t).p = .pointer t.pp by rw [Tr.p, setT_pp]]
              rfl
            · rcases List.mem_cons.1 hx with rfl | hx
              · exact List.mem_cons_of_mem _ (On_bl t HON2.out)
              · rw [List.mem_singleton.1 hx]; exact List.mem_cons_self
set_option maxHeartbeats 8000000 in
set_option maxRecDepth 100000 in
theorem exists_calls (g b : Nat) (bs : List Nat) (pl pr : Value) (kh : Int) (s : Nat) (w : World) (hl : bs.length = 32) (hw : w.heap[g]? = some (.cells (cellsN b bs pl pr kh) 88 (0, 0)))
    (hb : b ≤ s) (hb2 : s < b + 2048) (hs : s < 18446744073709551616) (hz : ∀ z ∈ bs, z < 18446744073709551616) (q : Bool) (hq : q = hasB bs (s - b)) :
    Calls Tryd.prog 69 #[.pointer (some ⟨g, 0, none⟩), .int .u64 (s : Int)] w fun e w' => e = .returned (.bool q) ∧ w' = w := by
  obtain ⟨d, hd⟩ : ∃ d, d = s - b := ⟨_, rfl⟩
  obtain ⟨i, hi⟩ : ∃ i, i = d / 64 := ⟨_, rfl⟩
  obtain ⟨r, hr⟩ : ∃ r, r = d % 64 := ⟨_, rfl⟩
  obtain ⟨μ, hμ⟩ : ∃ μ : Nat, μ = 2 ^ r := ⟨_, rfl⟩
  have hi32 : i < 32 := by omega
  have hr64 : r < 64 := by omega
  obtain ⟨z, hzz⟩ : ∃ z, z = bs.getD i 0 := ⟨_, rfl⟩
  have c1 := nd_base hw
  have c2 := nd_bit hw hl i hi32
  rw [← hzz] at c2
  have hz64 : z < 2 ^ 64 := by
    rw [hzz, List.getD_eq_getElem?_getD, List.getElem?_eq_getElem (by omega)]
    exact hz _ (List.getElem_mem _)
  have hμ64 : μ < 2 ^ 64 := by rw [hμ]; exact Nat.pow_lt_pow_right (by decide) hr64
  have e1 : IntKind.u64.wrap ((s : Int) - (b : Int)) = (d : Int) := Road.wu64 _ _ (by omega) (by omega) (by omega)
  have e2 : (d : Int) / 64 = (i : Int) := by omega
  have e3 : (d : Int) % 64 = (r : Int) := by omega
  have e7 : IntKind.u64.wrap (i : Int) = (i : Int) := Road.wu64 _ _ rfl (by omega) (by omega)
  have e4 : IntKind.u64.wrap (2 ^ r) = (μ : Int) := Road.wu64 _ _ (by rw [hμ]; push_cast; rfl) (by omega) (by omega)
  obtain ⟨y, hy⟩ : ∃ y, y = z &&& μ := ⟨_, rfl⟩
  obtain ⟨v, hv⟩ : ∃ v, v = z ||| μ := ⟨_, rfl⟩
  have e5 : bits .and .u64 (z : Int) (μ : Int) = (y : Int) := by rw [hy]; exact (bits_nat .u64 64 (by decide) wraps_u64 z μ hz64 hμ64).1
  have e6 : bits .or .u64 (z : Int) (μ : Int) = (v : Int) := by rw [hv]; exact (bits_nat .u64 64 (by decide) wraps_u64 z μ hz64 hμ64).2
  have hyq : (y = 0) ↔ q = false := by
    rw [hy, hq, hμ, hzz, hi, hr, hd]
    exact and_pow _ _
  have i1 := eq_true (show (i : Int) < 32 by omega)
  have i2 := eq_true hi32
  have i3 := eq_true (show r < 64 from hr64)
  have i4 := eq_true (show (r : Int) < 64 by omega)
  have HW := Aside0.mk hw
  have HD := Aside0.mk (And.intro hd (And.intro hi (And.intro hr (And.intro hμ (And.intro hzz hv)))))
  clear hb hb2 hs hz hq hd hi hr hμ hzz hz64 hμ64 hv hy hw hi32 hr64 hl
  cases q with
  | true =>
    have hy0 : ¬ y = 0 := fun e => Bool.noConfusion (hyq.1 e)
    have y1 : ((y : Int) != 0) = true := bne_iff_ne.2 (by omega)
    have y2 : decide (y = 0) = false := decide_eq_false hy0
    have y3 := eq_false hy0
    clear hyq hy0
    go_enter Tryd.func69, Tryd.ntmps69
    go_wp2_with fail
    go_ret
    exact ⟨rfl, rfl⟩
  | false =>
    have hy0 : y = 0 := hyq.2 rfl
    have y1 : ((y : Int) != 0) = false := bne_eq_false_iff_eq.2 (by omega)
    have y2 : decide (y = 0) = true := decide_eq_true hy0
    have y3 := eq_true hy0
    clear hyq hy0
    go_enter Tryd.func69, Tryd.ntmps69
    go_wp2_with fail
    go_ret
    exact ⟨rfl, rfl⟩
set_option maxHeartbeats 8000000 in
set_option maxRecDepth 100000 in
theorem Exists_calls (t : Tr) (SS : Nat) (sz nn : Int) (ch : Bool) (s : Nat) (w : World) (ha : t.at w) (hf : t.fit) (hS : w.heap[SS]? = some (.cells (ssC t.p sz nn ch) 84 (0, 0))) (hs : s + 2048 ≤ 18446744073709551616) :
    Calls Tryd.prog 48 #[.pointer (some ⟨SS, 0, none⟩), .int .u64 (s : Int)] w fun e w' => e = .returned (.bool (inT s t)) ∧ w' = w := by
  have c0 : w.cell? ⟨SS, 0, none⟩ = some (.pointer t.pp) := (cell_of_row w SS 0 _ _ _ hS).trans rfl
  obtain ⟨res, hres⟩ : ∃ z, z = inT s t := ⟨_, rfl⟩
  rw [← hres]
  have HRES := Aside0.mk hres
  have HA := Aside0.mk (And.intro ha hf)
  have HS := Aside0.mk hs
  clear ha hf hS hs hres
  go_enter Tryd.func48, Tryd.ntmps48
  go_wp2_with fail
  go_loopg [5] (t.sz + 1) (fun kq v5 w' => ∃ u : Tr, v5 = .pointer u.pp ∧ Aside0 (u.at w ∧ u.fit) ∧ Aside0 (inT s u = res) ∧ Aside0 (u.sz < kq) ∧ w' = w)
  case atStart => exact ⟨t, rfl, HA, ⟨HRES.out.symm⟩, ⟨Nat.lt_succ_self _⟩, rfl⟩
  case round =>
    obtain ⟨u, rfl, HU, HI, HK, hwr⟩ := hrel
    subst hwr
    cases gk with
    | zero => exact absurd HK.out (by omega)
    | succ k1 =>
    cases u with
    | nil =>
      have hI : res = false := HI.out.symm
      subst hI
      rw [show (Tr.nil).pp = none from rfl]
      go_wp2_with fail
      go_ret
      exact ⟨rfl, rfl⟩
    | node g b bs l r h0 =>
      rw [show (Tr.node g b bs l r h0).pp = some ⟨g, 0, none⟩ from rfl]
      have q1 := nd_base HU.out.1.2.1
      have kl : wr.cell? ⟨g, 33, none⟩ = some (.pointer l.pp) := nd_l HU.out.1.2.1 HU.out.1.1
      have kr : wr.cell? ⟨g, 34, none⟩ = some (.pointer r.pp) := nd_r HU.out.1.2.1 HU.out.1.1
      obtain ⟨b2, hbb⟩ : ∃ b2, b2 = b + 2048 := ⟨_, rfl⟩
      have hb2 : IntKind.u64.wrap ((b : Int) + 2048) = (b2 : Int) := Road.wu64 _ _ (by omega) (by omega) (by have := HU.out.2.1; omega)
      have HBB := Aside0.mk hbb
      have hkz : l.sz + r.sz + 1 < k1 + 1 := HK.out
      have HKZ := Aside0.mk hkz
      clear hbb hkz
      by_cases c : s < b
      · have c1 : decide ((s : Int) < (b : Int)) = true := decide_eq_true (by omega)
        have c2 : decide (s < b) = true := decide_eq_true c
        have HC := Aside0.mk c
        have HI2 := Aside0.mk (show inT s l = res by have := HI.out; rwa [inT, if_pos c] at this)
        clear c
        go_wp2_with fail
        go_roundg k1
        case measure => omega
        case rel => exact ⟨l, rfl, ⟨HU.out.1.2.2.1, HU.out.2.2.2.1⟩, HI2, ⟨by have := HKZ.out; omega⟩, rfl⟩
      · have c1 : decide ((s : Int) < (b : Int)) = false := decide_eq_false (by omega)
        have c2 : decide (s < b) = false := decide_eq_false c
        by_cases d : b2 ≤ s
        · have d1 : decide ((b2 : Int) ≤ (s : Int)) = true := decide_eq_true (by omega)
          have d2 : decide (b2 ≤ s) = true := decide_eq_true d
          have HI2 := Aside0.mk (show inT s r = res by have := HI.out; rwa [inT, if_neg c, if_pos (by have := HBB.out; omega)] at this)
          clear c d
          go_wp2_with fail
          go_roundg k1
          case measure => omega
          case rel => exact ⟨r, rfl, ⟨HU.out.1.2.2.2, HU.out.2.2.2.2⟩, HI2, ⟨by have := HKZ.out; omega⟩, rfl⟩
        · have d1 : decide ((b2 : Int) ≤ (s : Int)) = false := decide_eq_false (by omega)
          have d2 : decide (b2 ≤ s) = false := decide_eq_false d
          have hI2 : res = hasB bs (s - b) := by have := HI.out; rw [inT, if_neg c, if_neg (by have := HBB.out; omega)] at this; exact this.symm
          have HI2 := Aside0.mk (And.intro hI2 (And.intro c d))
          clear c d hI2
          go_wp2_with fail
          refine (exists_calls g b bs l.p r.p h0 s wr HU.out.1.1 HU.out.1.2.1 (by have := HI2.out.2.1; omega) (by have := HI2.out.2.2; have := HBB.out; omega) (by have := HS.out; omega) HU.out.2.2.1 res HI2.out.1).mono ?_
          rintro e w4 ⟨rfl, rfl⟩
          go_wp2_with fail
          go_ret
          exact ⟨rfl, rfl⟩
def clrB (bs : List Nat) (d : Nat) : List Nat := bs.set (d / 64) (bs.getD (d / 64) 0 ^^^ 2 ^ (d % 64))
def zeroB (bs : List Nat) : Bool := bs.all (fun z => z == 0)
theorem andNot_pow (z r : Nat) (hz : z < 2 ^ 64) (hr : r < 64) (ht : z.testBit r = true) : bits .andNot .u64 (z : Int) ((2 ^ r : Nat) : Int) = ((z ^^^ 2 ^ r : Nat) : Int) := by
  have hm : 2 ^ r < 2 ^ 64 := Nat.pow_lt_pow_right (by decide) hr
  have hx : z ^^^ 2 ^ r < 2 ^ 64 := Nat.xor_lt_two_pow hz hm
  unfold bits
  simp only
  have e : (BitVec.ofInt IntKind.u64.bits (z : Int) &&& ~~~ BitVec.ofInt IntKind.u64.bits ((2 ^ r : Nat) : Int)).toNat = z ^^^ 2 ^ r := by
    apply Nat.eq_of_testBit_eq
    intro j
    rw [BitVec.ofInt_natCast, BitVec.ofInt_natCast]
    show (BitVec.ofNat 64 z &&& ~~~ BitVec.ofNat 64 (2 ^ r)).getLsbD j = _
    rw [BitVec.getLsbD_and, BitVec.getLsbD_not, BitVec.getLsbD_ofNat, BitVec.getLsbD_ofNat, Nat.testBit_xor, Nat.testBit_two_pow]
    by_cases hj : j < 64
    · by_cases e : r = j
      · subst e; simp [hj, ht]
      · simp [hj, e]
    · have h1 : z.testBit j = false := Nat.testBit_lt_two_pow (Nat.lt_of_lt_of_le hz (Nat.pow_le_pow_right (by decide) (by omega)))
      have h2 : ¬ r = j := by omega
      simp [hj, h1, h2]
  rw [e]
  exact wraps_u64 _ (by omega) (by omega)
theorem zeroB_no {bs : List Nat} {i : Nat} (hi : i < bs.length) (h : bs.getD i 0 ≠ 0) : zeroB bs = false := by
  cases hz : zeroB bs with
  | false => rfl
  | true =>
    have := List.all_eq_true.1 hz bs[i] (List.getElem_mem hi)
    rw [List.getD_eq_getElem?_getD, List.getElem?_eq_getElem hi] at h
    exact absurd (beq_iff_eq.1 this) h
theorem zeroB_yes {bs : List Nat} (h : ∀ i, i < bs.length → bs.getD i 0 = 0) : zeroB bs = true := by
  refine List.all_eq_true.2 fun x hx => ?_
  obtain ⟨i, hi, rfl⟩ := List.getElem_of_mem hx
  have := h i hi
  rw [List.getD_eq_getElem?_getD, List.getElem?_eq_getElem hi] at this
  exact beq_iff_eq.2 this
theorem range_bits {w : World} {g b : Nat} {bs : List Nat} {pl pr : Value} {h : Int} (hl : bs.length = 32) (hw : w.heap[g]? = some (.cells (cellsN b bs pl pr h) 88 (0, 0))) :
    w.rangeAt g 1 (bs.map (fun z : Nat => Value.int .u64 (z : Int))) := by
  intro j v hv
  have hj : j < 32 := by
    have := (List.getElem?_eq_some_iff.1 hv).1
    rwa [List.length_map, hl] at this
  rw [nd_bit hw hl j hj, ← hv, List.getElem?_map, List.getD_eq_getElem?_getD, List.getElem?_eq_getElem (show j < bs.length by omega)]
  rfl
theorem run_index_bits (L : List Value) (k : Nat) (z : Int) (w : World) (hk : k < 32) (hL : L[k]? = some (.int .u64 z)) :
    (Instr.index 86 (.agg L.toArray) (.int .i64 (k : Int))).run Tryd.prog w = .ok (.int .u64 z) w := by
  have h1 : (0 : Int) ≤ (k : Int) ∧ (k : Int) < ((32 : Nat) : Int) := ⟨by omega, by omega⟩
  have hs : (sizeOf 32).run Tryd.prog w = .ok 1 w := by kernel_rfl
  have ha : (isAgg 32).run Tryd.prog w = .ok false w := by kernel_rfl
  simp only [Instr.index, asIntOf, Sem.run_bind, Sem.run_pure, Result.andThen_ok, run_underlying Tryd.underlying86]
  rw [if_pos h1]
  simp only [Sem.run_bind, hs, Result.andThen_ok, part, ha, Int.toNat_natCast, Nat.mul_one]
  have e : L.toArray[k]? = some (.int .u64 z) := by rw [List.getElem?_toArray]; exact hL
  simp only [e, Bool.false_eq_true, if_false]
  rfl
set_option maxHeartbeats 8000000 in
set_option maxRecDepth 100000 in
theorem clear_calls (g b : Nat) (bs : List Nat) (pl pr : Value) (kh : Int) (SS : Nat) (R : Value) (sz nn : Int) (ch : Bool) (s : Nat) (w : World) (hl : bs.length = 32) (hw : w.heap[g]? = some (.cells (cellsN b bs pl pr kh) 88 (0, 0)))
    (hS : w.heap[SS]? = some (.cells (ssC R sz nn ch) 84 (0, 0))) (hne : g ≠ SS) (hb : b ≤ s) (hb2 : s < b + 2048) (hs : s < 18446744073709551616) (hz : ∀ z ∈ bs, z < 18446744073709551616) (q : Bool) (hq : q = hasB bs (s - b)) :
    Calls Tryd.prog 86 #[.pointer (some ⟨g, 0, none⟩), .int .u64 (s : Int), .pointer (some ⟨SS, 3, none⟩)] w fun e w' => e = .returned (.bool (q && zeroB (clrB bs (s - b)))) ∧
      w'.heap[g]? = some (.cells (cellsN b (if q = true then clrB bs (s - b) else bs) pl pr kh) 88 (0, 0)) ∧ w'.heap[SS]? = some (.cells (ssC R sz nn (if q = true then true else ch)) 84 (0, 0)) ∧ Chg [g, SS] w w' := by
  obtain ⟨d, hd⟩ : ∃ d, d = s - b := ⟨_, rfl⟩
  obtain ⟨i, hi⟩ : ∃ i, i = d / 64 := ⟨_, rfl⟩
  obtain ⟨r, hr⟩ : ∃ r, r = d % 64 := ⟨_, rfl⟩
  obtain ⟨μ, hμ⟩ : ∃ μ : Nat, μ = 2 ^ r := ⟨_, rfl⟩
  have hi32 : i < 32 := by omega
  have hr64 : r < 64 := by omega
  obtain ⟨z, hzz⟩ : ∃ z, z = bs.getD i 0 := ⟨_, rfl⟩
  have c1 := nd_base hw
  have c2 := nd_bit hw hl i hi32
  rw [← hzz] at c2
  have hz64 : z < 2 ^ 64 := by
    rw [hzz, List.getD_eq_getElem?_getD, List.getElem?_eq_getElem (by omega)]
    exact hz _ (List.getElem_mem _)
  have hμ64 : μ < 2 ^ 64 := by rw [hμ]; exact Nat.pow_lt_pow_right (by decide) hr64
  have e1 : IntKind.u64.wrap ((s : Int) - (b : Int)) = (d : Int) := Road.wu64 _ _ (by omega) (by omega) (by omega)
  have e2 : (d : Int) / 64 = (i : Int) := by omega
  have e3 : (d : Int) % 64 = (r : Int) := by omega
  have e7 : IntKind.u64.wrap (i : Int) = (i : Int) := Road.wu64 _ _ rfl (by omega) (by omega)
  have e4 : IntKind.u64.wrap (2 ^ r) = (μ : Int) := Road.wu64 _ _ (by rw [hμ]; push_cast; rfl) (by omega) (by omega)
  obtain ⟨y, hy⟩ : ∃ y, y = z &&& μ := ⟨_, rfl⟩
  obtain ⟨v, hv⟩ : ∃ v, v = z ^^^ μ := ⟨_, rfl⟩
  have e5 : bits .and .u64 (z : Int) (μ : Int) = (y : Int) := by rw [hy]; exact (bits_nat .u64 64 (by decide) wraps_u64 z μ hz64 hμ64).1
  have hyq : (y = 0) ↔ q = false := by
    rw [hy, hq, hμ, hzz, hi, hr, hd]
    exact and_pow _ _
  have hvq : q = true → bits .andNot .u64 (z : Int) (μ : Int) = (v : Int) := by
    intro h
    rw [hv, hμ]
    refine andNot_pow z r hz64 hr64 ?_
    rw [hzz, hi, hr, hd]
    rw [hq] at h
    exact h
  have i1 := eq_true (show (i : Int) < 32 by omega)
  have i2 := eq_true hi32
  have i3 := eq_true (show r < 64 from hr64)
  have i4 := eq_true (show (r : Int) < 64 by omega)
  have HW := Aside0.mk hw
  have HS := Aside0.mk hS
  have HD := Aside0.mk (And.intro hd (And.intro hi (And.intro hr (And.intro hμ (And.intro hzz hv)))))
  have HL := Aside0.mk (And.intro hl hne)
  clear hb hb2 hs hz hq hd hi hr hμ hzz hz64 hμ64 hv hy hw hS hi32 hr64 hl hne
  cases q with
  | false =>
    have hy0 : y = 0 := hyq.2 rfl
    have y1 : ((y : Int) == 0) = true := beq_iff_eq.2 (by omega)
    have y2 : decide (y = 0) = true := decide_eq_true hy0
    have y3 := eq_true hy0
    clear hyq hy0 hvq
    go_enter Tryd.func86, Tryd.ntmps86
    go_wp2_with fail
    go_ret
    exact ⟨rfl, HW.out, HS.out, Chg.refl _ _⟩
  | true =>
    have hy0 : ¬ y = 0 := fun e => Bool.noConfusion (hyq.1 e)
    have y1 : ((y : Int) == 0) = false := beq_eq_false_iff_ne.2 (by omega)
    have y2 : decide (y = 0) = false := decide_eq_false hy0
    have y3 := eq_false hy0
    have e6 := hvq rfl
    have fz := nd_free HW.out (1 + i)
    have k2 : w.frozen? ⟨SS, 3, none⟩ = false := by simp [World.frozen?, HS.out]
    have k1 : (w.setCell ⟨g, 1 + i, none⟩ (.int .u64 (v : Int))).cell? ⟨SS, 3, none⟩ = some (.bool ch) := by
      rw [World.cell?_setCell_other _ _ _ _ (fun e => HL.out.2 (congrArg Addr.block e)), cell_of_row w SS 3 _ _ _ HS.out]
      rfl
    have hi2 : i < 32 := of_eq_true i2
    have E := nd_setB HW.out HL.out.1 i hi2 v
    have HE := Aside0.mk E
    clear hyq hy0 E hi2 hvq
    go_enter Tryd.func86, Tryd.ntmps86
    go_wp2_with fail
    go_still_tail 11, (by kernel_rfl)
    go_upto_region 7 with fail
    go_cut [42] from 42 (fun _ wx => Aside0 (wx.heap[g]? = some (.cells (cellsN b (clrB bs (s - b)) pl pr kh) 88 (0, 0)) ∧ wx.heap[SS]? = some (.cells (ssC R sz nn true) 84 (0, 0)) ∧ Chg [g, SS] w wx))
    case first =>
      go_wp2_with fail
      go_meet
      have hs1 : (w.setCell ⟨g, 1 + i, none⟩ (.int .u64 (v : Int))).drew.heap[SS]? = some (.cells (ssC R sz nn ch) 84 (0, 0)) := by
        show (w.setCell ⟨g, 1 + i, none⟩ (.int .u64 (v : Int))).heap[SS]? = _
        rw [HE.out, setRow_other _ _ _ _ HL.out.2.symm]
        exact HS.out
      have hg1 : (w.setCell ⟨g, 1 + i, none⟩ (.int .u64 (v : Int))).drew.heap[g]? = some (.cells (cellsN b (clrB bs (s - b)) pl pr kh) 88 (0, 0)) := by
        show (w.setCell ⟨g, 1 + i, none⟩ (.int .u64 (v : Int))).heap[g]? = _
        rw [HE.out]
        obtain ⟨q1, q2, q3, q4, q5, q6⟩ := HD.out
        have : clrB bs (s - b) = bs.set i v := by
          unfold clrB
          rw [← q1, ← q2, ← q3, ← q5, ← q4, ← q6]
        rw [this]
        exact setRow_heap _ _ _ _ _ _ HW.out
      have hc1 : Chg [g, SS] w (w.setCell ⟨g, 1 + i, none⟩ (.int .u64 (v : Int))).drew := by
        have : Chg [g, SS] w (w.setCell ⟨g, 1 + i, none⟩ (.int .u64 (v : Int))) := by
          rw [HE.out]
          exact (Chg.row w g _).mono (by simp)
        exact ⟨this.os, this.tape, this.output, this.size, this.keep⟩
      have E2 := setCell_eq_setRow (w.setCell ⟨g, 1 + i, none⟩ (.int .u64 (v : Int))).drew SS 3 _ 84 (0, 0) (.bool true) hs1
      refine ⟨?_⟩
      show ((w.setCell ⟨g, 1 + i, none⟩ (.int .u64 (v : Int))).drew.setCell ⟨SS, 3, none⟩ (.bool true)).heap[g]? = _ ∧ ((w.setCell ⟨g, 1 + i, none⟩ (.int .u64 (v : Int))).drew.setCell ⟨SS, 3, none⟩ (.bool true)).heap[SS]? = _ ∧ Chg [g, SS] w ((w.setCell ⟨g, 1 + i, none⟩ (.int .u64 (v : Int))).drew.setCell ⟨SS, 3, none⟩ (.bool true))
      rw [E2]
      exact ⟨(setRow_other _ _ _ _ HL.out.2).trans hg1, setRow_heap _ _ _ _ _ _ hs1, hc1.trans (Chg.row _ SS _) (fun x h => h) (by simp)⟩
    case rest =>
      have HC := Aside0.mk hcut.out
      clear hcut
      obtain ⟨bs2, hbs2⟩ : ∃ x, x = clrB bs (s - b) := ⟨_, rfl⟩
      have hl2 : bs2.length = 32 := by rw [hbs2, clrB, List.length_set]; exact HL.out.1
      have hi2 : i < 32 := of_eq_true i2
      have hib : i < bs2.length := by rw [hl2]; exact hi2
      obtain ⟨res, hres⟩ : ∃ x, x = zeroB bs2 := ⟨_, rfl⟩
      rw [← hbs2] at HC
      have HBS := Aside0.mk (And.intro hbs2 (And.intro hl2 hres))
      obtain ⟨z2, hz2⟩ : ∃ z2, z2 = bs2.getD i 0 := ⟨_, rfl⟩
      have c3 := nd_bit HC.out.1 hl2 i hi2
      rw [← hz2] at c3
      by_cases hz0 : z2 = 0
      · have z1 : ((z2 : Int) != 0) = false := bne_eq_false_iff_eq.2 (by omega)
        have z2' : decide (z2 = 0) = true := decide_eq_true hz0
        have z3 := eq_true hz0
        obtain ⟨L, hL⟩ : ∃ L, L = bs2.map (fun z : Nat => Value.int .u64 (z : Int)) := ⟨_, rfl⟩
        have HRG := Aside0.mk (show wc.rangeAt g 1 L by rw [hL]; exact range_bits hl2 HC.out.1)
        have HLL := Aside0.mk (show (Tryd.prog.info? 86).map (·.size) = some L.length by rw [hL, List.length_map, hl2]; kernel_rfl)
        have HL2 := Aside0.mk hL
        clear hbs2 hl2 hi2 hres hz2 hz0 hib hL
        go_wp2_with (first | ((with_reducible refine gate_dst (N := 54) rfl ?_); refine wpList_load_mid rfl 86 (.tmp 53) rfl g 1 rfl L _ HRG.out Tryd.underlying86 (by rfl) HLL.out ?_))
        go_loopw [55] (fun v55 wx => ∃ k : Nat, v55 = .int .i64 (k : Int) ∧ Aside0 (k ≤ 32 ∧ ∀ j, j < k → bs2.getD j 0 = 0) ∧ wx = wc) (fun v55 _ => Road.leftOf 32 v55)
        case atStart => exact ⟨0, rfl, ⟨by omega, fun j hj => by omega⟩, rfl⟩
        case round =>
          obtain ⟨k, rfl, HK, hwx⟩ := hrel
          subst hwx
          rcases Nat.lt_or_ge k 32 with hk | hk
          · have k1' := eq_true (show (k : Int) < 32 by omega)
            have k2' := eq_true hk
            obtain ⟨zk, hzk⟩ : ∃ zk, zk = bs2.getD k 0 := ⟨_, rfl⟩
            have ix : L[k]? = some (.int .u64 (zk : Int)) := by
              rw [HL2.out, List.getElem?_map, hzk, List.getD_eq_getElem?_getD, List.getElem?_eq_getElem (show k < bs2.length by rw [HBS.out.2.1]; exact hk)]
              rfl
            have hix := run_index_bits L k zk wr hk ix
            have HZK := Aside0.mk (And.intro hzk hk)
            clear hzk hk ix
            by_cases h0 : zk = 0
            · have z1 : ((zk : Int) != 0) = false := bne_eq_false_iff_eq.2 (by rw [h0]; rfl)
              have z2' : decide (zk = 0) = true := decide_eq_true h0
              have z3 := eq_true h0
              have H0 := Aside0.mk h0
              clear h0
              go_wp2_with fail
              go_roundw
              case rel =>
                refine ⟨k + 1, ?_, ⟨HZK.out.2, fun j hj => ?_⟩, by first | rfl | trivial⟩
                · rw [Road.w64 ((k : Int) + 1) ((k + 1 : Nat) : Int) (by omega) (by omega) (by have := HZK.out.2; omega)]
                · rcases Nat.lt_or_ge j k with h | h
                  · exact HK.out.2 j h
                  · obtain rfl : j = k := by omega
                    rw [← HZK.out.1, H0.out]
              case measure =>
                rw [Road.w64 ((k : Int) + 1) ((k + 1 : Nat) : Int) (by omega) (by omega) (by have := HZK.out.2; omega)]
                exact Road.leftOf_lt HZK.out.2
            · have z1 : ((zk : Int) != 0) = true := bne_iff_ne.2 (fun e => h0 (Int.ofNat.inj e))
              have z2' : decide (zk = 0) = false := decide_eq_false h0
              have z3 := eq_false h0
              have HR0 := Aside0.mk (show zeroB (clrB bs (s - b)) = false by rw [← HBS.out.1]; exact zeroB_no (by rw [HBS.out.2.1]; exact HZK.out.2) (by rw [← HZK.out.1]; exact h0))
              clear h0
              go_wp2_with fail
              go_ret
              obtain ⟨x1, x2, x3⟩ := HC.out
              rw [HBS.out.1] at x1
              exact ⟨by rw [HR0.out]; rfl, x1, x2, x3⟩
          · obtain rfl : k = 32 := by have := HK.out.1; omega
            have HR0 := Aside0.mk (show zeroB (clrB bs (s - b)) = true by rw [← HBS.out.1]; exact zeroB_yes (fun j hj => HK.out.2 j (by rw [HBS.out.2.1] at hj; exact hj)))
            clear hk
            go_wp2_with fail
            go_ret
            obtain ⟨x1, x2, x3⟩ := HC.out
            rw [HBS.out.1] at x1
            exact ⟨by rw [HR0.out]; rfl, x1, x2, x3⟩
      · have z1 : ((z2 : Int) != 0) = true := bne_iff_ne.2 (by omega)
        have z2' : decide (z2 = 0) = false := decide_eq_false hz0
        have z3 := eq_false hz0
        have HR0 := Aside0.mk (show zeroB (clrB bs (s - b)) = false by rw [← hbs2]; exact zeroB_no hib (by rw [← hz2]; exact hz0))
        clear hbs2 hl2 hi2 hres hz2 hz0 hib
        go_wp2_with fail
        go_ret
        obtain ⟨x1, x2, x3⟩ := HC.out
        rw [HBS.out.1] at x1
        exact ⟨by rw [HR0.out]; rfl, x1, x2, x3⟩
/-- A tree put in ahead of all others. -/
def prevT (nn : Tr) : Tr → Tr
  | .nil => nn
  | .node g b bs l r _ => balT g b bs (prevT nn l) r
theorem prevT_bl (nn : Tr) : ∀ t : Tr, (prevT nn t).bl.Perm (t.bl ++ nn.bl)
  | .nil => List.Perm.refl _
  | .node g b bs l r h => by
    have ih := prevT_bl nn l
    refine (balT_bl _ _ _ _ _).trans ?_
    refine ((ih.append_right r.bl).cons g).trans ?_
    rw [List.perm_iff_count]
    intro x
    simp only [Tr.bl, List.count_cons, List.count_append, List.cons_append]
    omega
theorem prevT_sz (nn : Tr) : ∀ t : Tr, (prevT nn t).sz = t.sz + nn.sz
  | .nil => by simp [prevT, Tr.sz]
  | .node g b bs l r h => by
    have ih := prevT_sz nn l
    rw [prevT, balT_sz, ih]
    simp only [Tr.sz]
    omega
theorem prevT_good (nn : Tr) (hn : nn.good) : ∀ t : Tr, t.good → (prevT nn t).good
  | .nil, _ => hn
  | .node g b bs l r h, hg => balT_good _ _ _ _ _ (prevT_good nn hn l hg.2.1) hg.2.2
set_option maxHeartbeats 16000000 in
set_option maxRecDepth 100000 in
theorem prev_calls (nn : Tr) (SS : Nat) (X : Obj) (hgn : nn.good) : ∀ (t : Tr) (w : World), t ≠ .nil → t.at w → nn.at w → (t.bl ++ nn.bl).Nodup → t.good → t.sz + nn.sz ≤ 10000 → w.heap[SS]? = some X → SS ∉ t.bl ++ nn.bl →
    Calls Tryd.prog 87 #[t.p, nn.p] w fun e w' => e = .returned ((prevT nn t).p) ∧ (prevT nn t).at w' ∧ w'.heap[SS]? = some X ∧ Chg (SS :: (t.bl ++ nn.bl)) w w' := by
  intro t
  induction t with
  | nil => intro w h; exact absurd rfl h
  | node g b bs l r h0 ihl ihr =>
    intro w _ ha hna hnd hg hsz hS hSS
    show Calls Tryd.prog 87 #[.pointer (some ⟨g, 0, none⟩), .pointer nn.pp] w _
    clear ihr
    have kl : w.cell? ⟨g, 33, none⟩ = some (.pointer l.pp) := nd_l ha.2.1 ha.1
    have fl := nd_free ha.2.1 33
    have nd := List.nodup_append.1 hnd
    have nd1 := List.nodup_cons.1 nd.1
    have nd2 := List.nodup_append.1 nd1.2
    have hsg : SS ≠ g := fun e => hSS (by rw [e]; exact List.mem_append_left _ List.mem_cons_self)
    have hsl : SS ∉ l.bl := fun e => hSS (List.mem_append_left _ (List.mem_cons_of_mem _ (List.mem_append_left _ e)))
    have hsr : SS ∉ r.bl := fun e => hSS (List.mem_append_left _ (List.mem_cons_of_mem _ (List.mem_append_right _ e)))
    have hsn : SS ∉ nn.bl := fun e => hSS (List.mem_append_right _ e)
    have gn : g ∉ nn.bl := fun e => nd.2.2 g List.mem_cons_self g e rfl
    have ln : ∀ x ∈ l.bl, x ∉ nn.bl := fun x hx e => nd.2.2 x (List.mem_cons_of_mem _ (List.mem_append_left _ hx)) x e rfl
    have rn : ∀ x ∈ r.bl, x ∉ nn.bl := fun x hx e => nd.2.2 x (List.mem_cons_of_mem _ (List.mem_append_right _ hx)) x e rfl
    have hzz : l.sz + r.sz + 1 + nn.sz ≤ 10000 := hsz
    have HH := Aside0.mk (And.intro ha (And.intro hna (And.intro hg (And.intro hzz (And.intro hS (And.intro nd1.1 (And.intro nd2 (And.intro hsg (And.intro hsl (And.intro hsr (And.intro hsn (And.intro gn (And.intro ln (And.intro rn nd.2.1))))))))))))))
    clear ha hna hnd hg hsz hS hSS nd nd1 nd2 hsg hsl hsr hsn gn ln rn hzz
    -- what each way gives
    have meets : ∀ (w1 : World) (l' : Tr), l'.at w1 → l'.bl.Perm (l.bl ++ nn.bl) → l'.good → l'.sz = l.sz + nn.sz → w1.heap[SS]? = some X → Chg (SS :: (l.bl ++ nn.bl)) w w1 →
        w1.heap[g]? = some (.cells (cellsN b bs l.p r.p h0) 88 (0, 0)) ∧
        (Tr.at (w1.setRow g (cellsN b bs l'.p r.p h0)) (.node g b bs l' r h0) ∧ (Tr.node g b bs l' r h0).bl.Nodup ∧ (l'.good ∧ r.good ∧ l'.sz + r.sz ≤ 10001) ∧ (w1.setRow g (cellsN b bs l'.p r.p h0)).heap[SS]? = some X ∧ Chg (SS :: ((Tr.node g b bs l r h0).bl ++ nn.bl)) w (w1.setRow g (cellsN b bs l'.p r.p h0)) ∧
          (SS ≠ g ∧ SS ∉ l'.bl ++ r.bl ∧ ∀ x ∈ (g :: (l'.bl ++ r.bl)), x < w.heap.size → x ∈ SS :: ((Tr.node g b bs l r h0).bl ++ nn.bl))) := by
      intro w1 l' a1 p1 g1 z1 s1 c1
      obtain ⟨ha, hna, hg, hzz, hS, ndg, nd2, hsg, hsl, hsr, hsn, gn, ln, rn, ndn⟩ := HH.out
      have gl' : g ∉ l'.bl := fun e => (List.mem_append.1 (p1.subset e)).elim (fun e => ndg (List.mem_append_left _ e)) gn
      have q1 : w1.heap[g]? = some (.cells (cellsN b bs l.p r.p h0) 88 (0, 0)) := (c1.keep g (Array.getElem?_eq_some_iff.1 ha.2.1).1 (fun hh => (List.mem_cons.1 hh).elim (fun e => hsg e.symm) (fun e => (List.mem_append.1 e).elim (fun e => ndg (List.mem_append_left _ e)) gn))).trans ha.2.1
      have ar : r.at w1 := at_keep c1 r ha.2.2.2 (fun y hy hh => (List.mem_cons.1 hh).elim (fun e => hsr (e ▸ hy)) (fun e => (List.mem_append.1 e).elim (fun e => nd2.2.2 y e y hy rfl) (rn y hy)))
      have c6 := Chg.row w1 g (cellsN b bs l'.p r.p h0)
      refine ⟨q1, ⟨ha.1, setRow_heap _ _ _ _ _ _ q1, at_keep c6 _ a1 (fun y hy => by simp; rintro rfl; exact gl' hy), at_keep c6 _ ar (fun y hy => by simp; rintro rfl; exact ndg (List.mem_append_right _ hy))⟩, ?_, ⟨g1, hg.2.2, by omega⟩, (setRow_other _ _ _ _ hsg).trans s1, ?_, hsg, ?_, ?_⟩
      · refine List.nodup_cons.2 ⟨fun hh => (List.mem_append.1 hh).elim gl' (fun e => ndg (List.mem_append_right _ e)), List.nodup_append.2 ⟨p1.nodup_iff.2 (List.nodup_append.2 ⟨nd2.1, ndn, fun x hx y hy e => ln x hx (e ▸ hy)⟩), nd2.2.1, fun x hx y hy e => ?_⟩⟩
        rcases List.mem_append.1 (p1.subset hx) with h | h
        · exact nd2.2.2 x h y hy e
        · exact rn y hy (e ▸ h)
      · refine c1.trans c6 (fun x hx => ?_) (fun x hx _ => by rw [List.mem_singleton.1 hx]; exact List.mem_cons_of_mem _ (List.mem_append_left _ List.mem_cons_self))
        rcases List.mem_cons.1 hx with rfl | hx
        · exact List.mem_cons_self
        · rcases List.mem_append.1 hx with h | h
          · exact List.mem_cons_of_mem _ (List.mem_append_left _ (List.mem_cons_of_mem _ (List.mem_append_left _ h)))
          · exact List.mem_cons_of_mem _ (List.mem_append_right _ h)
      · intro hh
        rcases List.mem_append.1 hh with e | e
        · rcases List.mem_append.1 (p1.subset e) with e | e
          · exact hsl e
          · exact hsn e
        · exact hsr e
      · intro x hx _
        rcases List.mem_cons.1 hx with rfl | hx
        · exact List.mem_cons_of_mem _ (List.mem_append_left _ List.mem_cons_self)
        · rcases List.mem_append.1 hx with e | e
          · rcases List.mem_append.1 (p1.subset e) with e | e
            · exact List.mem_cons_of_mem _ (List.mem_append_left _ (List.mem_cons_of_mem _ (List.mem_append_left _ e)))
            · exact List.mem_cons_of_mem _ (List.mem_append_right _ e)
          · exact List.mem_cons_of_mem _ (List.mem_append_left _ (List.mem_cons_of_mem _ (List.mem_append_right _ e)))
    have HM := Aside0.mk meets
    clear meets
    have cutrel : True := trivial
    cases l with
    | nil =>
      replace kl : w.cell? ⟨g, 33, none⟩ = some (.pointer none) := kl
      have hm := HM.out w nn HH.out.2.1 (List.Perm.refl _) hgn (by simp [Tr.sz]) HH.out.2.2.2.2.1 (Chg.refl _ _)
      have HM2 := Aside0.mk hm
      clear hm cutrel
      go_enter Tryd.func87, Tryd.ntmps87
      go_upto_region 4 with fail
      rw [show (Value.pointer nn.pp) = nn.p from rfl, nd_setL HM2.out.1 HH.out.1.1]
      obtain ⟨q1, hA, hN, hGD, hSS, hCH, hNS⟩ := HM2.out
      generalize w.setRow g (cellsN b bs nn.p r.p h0) = wc at hA hSS hCH ⊢
      obtain ⟨bs', l', r', HI, HA, HN, HGD, HSS, HCH, HNS⟩ : ∃ (bs' : List Nat) (l' r' : Tr), Aside0 (prevT nn (.node g b bs .nil r h0) = balT g b bs' l' r') ∧ Aside0 (Tr.at wc (.node g b bs' l' r' h0)) ∧ Aside0 ((Tr.node g b bs' l' r' h0).bl.Nodup) ∧ Aside0 (l'.good ∧ r'.good ∧ l'.sz + r'.sz ≤ 10001) ∧ Aside0 (wc.heap[SS]? = some X) ∧ Aside0 (Chg (SS :: ((Tr.node g b bs .nil r h0).bl ++ nn.bl)) w wc) ∧ Aside0 (SS ≠ g ∧ SS ∉ l'.bl ++ r'.bl ∧ ∀ x ∈ (g :: (l'.bl ++ r'.bl)), x < w.heap.size → x ∈ SS :: ((Tr.node g b bs .nil r h0).bl ++ nn.bl)) := ⟨bs, nn, r, ⟨rfl⟩, ⟨hA⟩, ⟨hN⟩, ⟨hGD⟩, ⟨hSS⟩, ⟨hCH⟩, ⟨hNS⟩⟩
      clear q1 hA hN hGD hSS hCH hNS kl fl
      go_wp2_with fail
      refine (maxH_calls (.node g b bs' l' r' h0) wc HA.out).mono ?_
      rintro e w1 ⟨rfl, rfl⟩
      obtain ⟨x, hx⟩ : ∃ x, x = mH (.node g b bs' l' r' h0) := ⟨_, rfl⟩
      rw [← hx]
      have HX := Aside0.mk hx
      clear hx
      have n1 := nd_free HA.out.2.1 35
      have n2 := nd_h HA.out.2.1 HA.out.1
      go_wp2_with fail
      have ex : wrap64 (x + 1) = mH (.node g b bs' l' r' 0) + 1 := by
        have h1 := mH_sz g b bs' l' r' h0 HGD.out.1 HGD.out.2.1
        have h2 := HGD.out.2.2
        rw [HX.out, show mH (.node g b bs' l' r' 0) = mH (.node g b bs' l' r' h0) from rfl]
        exact Road.w64 _ _ rfl (by omega) (by omega)
      rw [ex, nd_setH HA.out.2.1 HA.out.1]
      obtain ⟨h1, hh1⟩ : ∃ h1, h1 = mH (.node g b bs' l' r' 0) + 1 := ⟨_, rfl⟩
      rw [← hh1]
      have HH1 := Aside0.mk hh1
      clear ex n1 n2 hh1
      have C1 := HCH.out.trans (Chg.row w1 g (cellsN b bs' l'.p r'.p h1)) (fun x h => h) (fun x hx => HNS.out.2.2 x (by rw [List.mem_singleton.1 hx]; exact List.mem_cons_self))
      have C1a := Chg.row w1 g (cellsN b bs' l'.p r'.p h1)
      have q1 := setRow_heap w1 g _ (cellsN b bs' l'.p r'.p h1) _ _ HA.out.2.1
      have nd := List.nodup_cons.1 HN.out
      have A1 : Tr.at (w1.setRow g (cellsN b bs' l'.p r'.p h1)) (.node g b bs' l' r' h1) := ⟨HA.out.1, q1, at_keep C1a l' HA.out.2.2.1 (fun y hy => by simp; rintro rfl; exact nd.1 (List.mem_append_left _ hy)), at_keep C1a r' HA.out.2.2.2 (fun y hy => by simp; rintro rfl; exact nd.1 (List.mem_append_right _ hy))⟩
      have S1 : (w1.setRow g (cellsN b bs' l'.p r'.p h1)).heap[SS]? = _ := (setRow_other _ _ _ _ HNS.out.1).trans HSS.out
      generalize w1.setRow g (cellsN b bs' l'.p r'.p h1) = W1 at C1 A1 S1 ⊢
      have HC1 := Aside0.mk C1
      have HA1 := Aside0.mk A1
      have HS1 := Aside0.mk S1
      clear C1 C1a q1 nd A1 S1
      have G1 : (Tr.node g b bs' l' r' h1).good := ⟨by rw [HH1.out]; rfl, HGD.out.1, HGD.out.2.1⟩
      have Z1 : (Tr.node g b bs' l' r' h1).sz ≤ 20000 := by have := HGD.out.2.2; show l'.sz + r'.sz + 1 ≤ 20000; omega
      refine (balF_calls (.node g b bs' l' r' h1) W1 HA1.out (bF_sz _ G1 Z1)).mono ?_
      rintro e w2 ⟨rfl, rfl⟩
      obtain ⟨d, hd⟩ : ∃ d, d = bF (.node g b bs' l' r' h1) := ⟨_, rfl⟩
      rw [← hd]
      have HD := Aside0.mk hd
      have HG1 := Aside0.mk (And.intro G1 Z1)
      clear hd G1 Z1
      have nl : w2.cell? ⟨g, 33, none⟩ = some (.pointer l'.pp) := nd_l HA1.out.2.1 HA1.out.1
      have nr : w2.cell? ⟨g, 34, none⟩ = some (.pointer r'.pp) := nd_r HA1.out.2.1 HA1.out.1
      have fl := nd_free HA1.out.2.1 33
      have fr := nd_free HA1.out.2.1 34
      by_cases c1 : 1 < d
      · have c1' : decide (1 < d) = true := decide_eq_true c1
        obtain ⟨g1, b1, bs1, lx, rx, k1, hs⟩ := left_of (show (Tr.node g b bs' l' r' h1).good from HG1.out.1) (by rw [← HD.out]; omega)
        have HSH := Aside0.mk hs
        clear hs
        have esp : l'.pp = some ⟨g1, 0, none⟩ := by rw [HSH.out]; rfl
        rw [esp] at nl
        have HESP := Aside0.mk esp
        clear esp
        go_wp2_with fail
        have hbs := balF_calls l' w2 HA1.out.2.2.1 (bF_sz l' HGD.out.1 (by have := HGD.out.2.2; omega))
        rw [show l'.p = .pointer (some ⟨g1, 0, none⟩) by rw [Tr.p, HESP.out]] at hbs
        refine hbs.mono ?_
        clear hbs
        rintro e w3 ⟨rfl, rfl⟩
        obtain ⟨d2, hd2⟩ : ∃ d2, d2 = bF l' := ⟨_, rfl⟩
        rw [← hd2]
        have HD2 := Aside0.mk hd2
        clear hd2
        by_cases c2 : d2 < 0
        · have c2' : decide (d2 < 0) = true := decide_eq_true c2
          obtain ⟨g3, b3, bs3, ly, ry, k3, ht⟩ := right_of (by rw [← HSH.out]; exact HGD.out.1 : (Tr.node g1 b1 bs1 lx rx k1).good) (by rw [← HSH.out, ← HD2.out]; omega)
          have hshape : ∃ g b bs o g2 b2 bs2 i p k2 h, l' = .node g b bs o (.node g2 b2 bs2 i p k2) h := ⟨_, _, _, _, _, _, _, _, _, _, _, by rw [HSH.out, ht]⟩
          have HSHP := Aside0.mk hshape
          clear ht hshape c2
          go_wp2_with fail
          have nd := List.nodup_cons.1 HN.out
          have hrc := rotLt_calls l' w3 HA1.out.2.2.1 (List.nodup_append.1 nd.2).1 (by rw [HSH.out]; have := HGD.out.1; rw [HSH.out] at this; exact ⟨this.2.1, this.2.2⟩) (by have := HGD.out.2.2; omega) HSHP.out
          rw [show l'.p = .pointer (some ⟨g1, 0, none⟩) by rw [Tr.p, HESP.out]] at hrc
          refine hrc.mono ?_
          clear hrc
          rintro e w4 ⟨rfl, a4, c4⟩
          have p4 := rotLt_bl l'
          have hgn : g ∉ l'.bl := fun hh => nd.1 (List.mem_append_left _ hh)
          have q4 : w4.heap[g]? = _ := (c4.keep g (Array.getElem?_eq_some_iff.1 HA1.out.2.1).1 hgn).trans HA1.out.2.1
          have a5 : r'.at w4 := at_keep c4 r' HA1.out.2.2.2 (fun y hy hy2 => (List.nodup_append.1 nd.2).2.2 y hy2 y hy rfl)
          have s4 : w4.heap[SS]? = _ := (c4.keep SS (Array.getElem?_eq_some_iff.1 HS1.out).1 (fun hh => HNS.out.2.1 (List.mem_append_left _ hh))).trans HS1.out
          have C4 := HC1.out.trans c4 (fun x h => h) (fun x hx => HNS.out.2.2 x (List.mem_cons_of_mem _ (List.mem_append_left _ hx)))
          have f4 := nd_free q4 33
          have n4 := nd_l q4 HA.out.1
          have H4 := Aside0.mk (And.intro a4 (And.intro a5 (And.intro q4 (And.intro s4 (And.intro C4 (And.intro p4 hgn))))))
          obtain ⟨g5, b5, bs5, l5, r5, k5, ht5⟩ := rotLt_shape HSHP.out
          have e5 : (rotLt l').pp = some ⟨g5, 0, none⟩ := by rw [ht5]; rfl
          rw [Tr.p, e5]
          have HE5 := Aside0.mk e5
          clear nd a4 a5 q4 s4 c4 C4 p4 hgn ht5 e5 nl nr fl fr
          go_wp2_with fail
          rw [show (Value.pointer (some ⟨g5, 0, none⟩)) = (rotLt l').p by rw [Tr.p, HE5.out], nd_setL H4.out.2.2.1 HA.out.1]
          obtain ⟨a4, a5, q4, s4, C4, p4, hgn⟩ := H4.out
          have c6 := Chg.row w4 g (cellsN b bs' (rotLt l').p r'.p h1)
          have q6 := setRow_heap w4 g _ (cellsN b bs' (rotLt l').p r'.p h1) _ _ q4
          have nd := List.nodup_cons.1 HN.out
          have a6 : (rotLt l').at (w4.setRow g (cellsN b bs' (rotLt l').p r'.p h1)) := at_keep c6 _ a4 (fun y hy => by simp; rintro rfl; exact hgn (p4.subset hy))
          have a7 : r'.at (w4.setRow g (cellsN b bs' (rotLt l').p r'.p h1)) := at_keep c6 _ a5 (fun y hy => by simp; rintro rfl; exact nd.1 (List.mem_append_right _ hy))
          have s6 : (w4.setRow g (cellsN b bs' (rotLt l').p r'.p h1)).heap[SS]? = _ := (setRow_other _ _ _ _ HNS.out.1).trans s4
          have C6 := C4.trans c6 (fun x h => h) (fun x hx => HNS.out.2.2 x (by rw [List.mem_singleton.1 hx]; exact List.mem_cons_self))
          have A6 : Tr.at (w4.setRow g (cellsN b bs' (rotLt l').p r'.p h1)) (.node g b bs' (rotLt l') r' h1) := ⟨HA.out.1, q6, a6, a7⟩
          have N6 : (Tr.bl (.node g b bs' (rotLt l') r' h1)).Nodup := (bl_node rfl p4 (List.Perm.refl _)).nodup_iff.2 HN.out
          have P6 : (Tr.bl (.node g b bs' (rotLt l') r' h1)).Perm (g :: (l'.bl ++ r'.bl)) := bl_node (b := b) (b' := b) (bs := bs') (bs' := bs') (h := h1) (h' := h1) rfl p4 (List.Perm.refl _)
          generalize w4.setRow g (cellsN b bs' (rotLt l').p r'.p h1) = W6 at A6 s6 C6 ⊢
          refine (rotRt_calls (.node g b bs' (rotLt l') r' h1) W6 A6 N6 ⟨rotLt_good _ HGD.out.1, HGD.out.2.1⟩ (by have := HGD.out.2.2; show (rotLt l').sz + r'.sz + 1 ≤ 20000; rw [rotLt_sz]; omega) (by obtain ⟨g9, b9, bs9, l9, r9, k9, hz9⟩ := rotLt_shape HSHP.out; rw [hz9]; exact ⟨_, _, _, _, _, _, _, _, _, _, _, rfl⟩)).mono ?_
          rintro e w7 ⟨rfl, a9, c9⟩
          have EQ : balT g b bs' l' r' = rotRt (.node g b bs' (rotLt l') r' h1) := by
            unfold balT
            simp only
            rw [if_pos (show 1 < l'.ht - r'.ht by have h := HD.out; rw [show bF (.node g b bs' l' r' h1) = l'.ht - r'.ht from rfl] at h; omega), if_pos (show bF l' < 0 by rw [← HD2.out]; exact of_decide_eq_true c2'), ← HH1.out]
          have C9 := C6.trans c9 (fun x h => h) (fun x hx => HNS.out.2.2 x (P6.subset hx))
          have s9 : w7.heap[SS]? = _ := (c9.keep SS (Array.getElem?_eq_some_iff.1 s6).1 (fun hh => (List.mem_cons.1 (P6.subset hh)).elim (fun e => HNS.out.1 e) HNS.out.2.1)).trans s6
          have H9 := Aside0.mk (And.intro EQ (And.intro a9 (And.intro s9 C9)))
          clear H4 a4 a5 q4 s4 C4 p4 hgn c6 q6 nd a6 a7 s6 C6 A6 N6 P6 c9 a9 s9 C9 EQ f4 n4
          go_wp2_with fail
          go_ret
          obtain ⟨EQ, a9, s9, C9⟩ := H9.out
          rw [HI.out, EQ]
          exact ⟨rfl, a9, s9, C9⟩
        · have c2' : decide (d2 < 0) = false := decide_eq_false c2
          go_wp2_with fail
          refine (rotRt_calls (.node g b bs' l' r' h1) w3 HA1.out HN.out ⟨HGD.out.1, HGD.out.2.1⟩ HG1.out.2 (by rw [HSH.out]; exact ⟨_, _, _, _, _, _, _, _, _, _, _, rfl⟩)).mono ?_
          rintro e w7 ⟨rfl, a9, c9⟩
          have EQ : balT g b bs' l' r' = rotRt (.node g b bs' l' r' h1) := by
            unfold balT
            simp only
            rw [if_pos (show 1 < l'.ht - r'.ht by have h := HD.out; rw [show bF (.node g b bs' l' r' h1) = l'.ht - r'.ht from rfl] at h; omega), if_neg (show ¬ bF l' < 0 by rw [← HD2.out]; exact of_decide_eq_false c2'), ← HH1.out]
          have C9 := HC1.out.trans c9 (fun x h => h) (fun x hx => HNS.out.2.2 x hx)
          have s9 : w7.heap[SS]? = _ := (c9.keep SS (Array.getElem?_eq_some_iff.1 HS1.out).1 (fun hh => (List.mem_cons.1 hh).elim (fun e => HNS.out.1 e) HNS.out.2.1)).trans HS1.out
          have H9 := Aside0.mk (And.intro EQ (And.intro a9 (And.intro s9 C9)))
          clear c9 a9 s9 C9 EQ nl nr fl fr c2
          go_wp2_with fail
          go_ret
          obtain ⟨EQ, a9, s9, C9⟩ := H9.out
          rw [HI.out, EQ]
          exact ⟨rfl, a9, s9, C9⟩
      · have c1' : decide (1 < d) = false := decide_eq_false c1
        by_cases c3 : d < -1
        · have c3' : decide (d < -1) = true := decide_eq_true c3
          obtain ⟨g1, b1, bs1, lx, rx, k1, hs⟩ := right_of (show (Tr.node g b bs' l' r' h1).good from HG1.out.1) (by rw [← HD.out]; omega)
          have HSH := Aside0.mk hs
          clear hs
          have esp : r'.pp = some ⟨g1, 0, none⟩ := by rw [HSH.out]; rfl
          rw [esp] at nr
          have HESP := Aside0.mk esp
          clear esp
          go_wp2_with fail
          have hbs := balF_calls r' w2 HA1.out.2.2.2 (bF_sz r' HGD.out.2.1 (by have := HGD.out.2.2; omega))
          rw [show r'.p = .pointer (some ⟨g1, 0, none⟩) by rw [Tr.p, HESP.out]] at hbs
          refine hbs.mono ?_
          clear hbs
          rintro e w3 ⟨rfl, rfl⟩
          obtain ⟨d2, hd2⟩ : ∃ d2, d2 = bF r' := ⟨_, rfl⟩
          rw [← hd2]
          have HD2 := Aside0.mk hd2
          clear hd2
          by_cases c2 : 0 < d2
          · have c2' : decide (0 < d2) = true := decide_eq_true c2
            obtain ⟨g3, b3, bs3, ly, ry, k3, ht⟩ := left_of (by rw [← HSH.out]; exact HGD.out.2.1 : (Tr.node g1 b1 bs1 lx rx k1).good) (by rw [← HSH.out, ← HD2.out]; omega)
            have hshape : ∃ g b bs o g2 b2 bs2 i p k2 h, r' = .node g b bs (.node g2 b2 bs2 p i k2) o h := ⟨_, _, _, _, _, _, _, _, _, _, _, by rw [HSH.out, ht]⟩
            have HSHP := Aside0.mk hshape
            clear ht hshape c2
            go_wp2_with fail
            have nd := List.nodup_cons.1 HN.out
            have hrc := rotRt_calls r' w3 HA1.out.2.2.2 (List.nodup_append.1 nd.2).2.1 (by rw [HSH.out]; have := HGD.out.2.1; rw [HSH.out] at this; exact ⟨this.2.1, this.2.2⟩) (by have := HGD.out.2.2; omega) HSHP.out
            rw [show r'.p = .pointer (some ⟨g1, 0, none⟩) by rw [Tr.p, HESP.out]] at hrc
            refine hrc.mono ?_
            clear hrc
            rintro e w4 ⟨rfl, a4, c4⟩
            have p4 := rotRt_bl r'
            have hgn : g ∉ r'.bl := fun hh => nd.1 (List.mem_append_right _ hh)
            have q4 : w4.heap[g]? = _ := (c4.keep g (Array.getElem?_eq_some_iff.1 HA1.out.2.1).1 hgn).trans HA1.out.2.1
            have a5 : l'.at w4 := at_keep c4 l' HA1.out.2.2.1 (fun y hy hy2 => (List.nodup_append.1 nd.2).2.2 y hy y hy2 rfl)
            have s4 : w4.heap[SS]? = _ := (c4.keep SS (Array.getElem?_eq_some_iff.1 HS1.out).1 (fun hh => HNS.out.2.1 (List.mem_append_right _ hh))).trans HS1.out
            have C4 := HC1.out.trans c4 (fun x h => h) (fun x hx => HNS.out.2.2 x (List.mem_cons_of_mem _ (List.mem_append_right _ hx)))
            have f4 := nd_free q4 34
            have n4 := nd_r q4 HA.out.1
            have H4 := Aside0.mk (And.intro a4 (And.intro a5 (And.intro q4 (And.intro s4 (And.intro C4 (And.intro p4 hgn))))))
            obtain ⟨g5, b5, bs5, l5, r5, k5, ht5⟩ := rotRt_shape HSHP.out
            have e5 : (rotRt r').pp = some ⟨g5, 0, none⟩ := by rw [ht5]; rfl
            rw [Tr.p, e5]
            have HE5 := Aside0.mk e5
            clear nd a4 a5 q4 s4 c4 C4 p4 hgn ht5 e5 nl nr fl fr
            go_wp2_with fail
            rw [show (Value.pointer (some ⟨g5, 0, none⟩)) = (rotRt r').p by rw [Tr.p, HE5.out], nd_setR H4.out.2.2.1 HA.out.1]
            obtain ⟨a4, a5, q4, s4, C4, p4, hgn⟩ := H4.out
            have c6 := Chg.row w4 g (cellsN b bs' l'.p (rotRt r').p h1)
            have q6 := setRow_heap w4 g _ (cellsN b bs' l'.p (rotRt r').p h1) _ _ q4
            have nd := List.nodup_cons.1 HN.out
            have a6 : (rotRt r').at (w4.setRow g (cellsN b bs' l'.p (rotRt r').p h1)) := at_keep c6 _ a4 (fun y hy => by simp; rintro rfl; exact hgn (p4.subset hy))
            have a7 : l'.at (w4.setRow g (cellsN b bs' l'.p (rotRt r').p h1)) := at_keep c6 _ a5 (fun y hy => by simp; rintro rfl; exact nd.1 (List.mem_append_left _ hy))
            have s6 : (w4.setRow g (cellsN b bs' l'.p (rotRt r').p h1)).heap[SS]? = _ := (setRow_other _ _ _ _ HNS.out.1).trans s4
            have C6 := C4.trans c6 (fun x h => h) (fun x hx => HNS.out.2.2 x (by rw [List.mem_singleton.1 hx]; exact List.mem_cons_self))
            have A6 : Tr.at (w4.setRow g (cellsN b bs' l'.p (rotRt r').p h1)) (.node g b bs' l' (rotRt r') h1) := ⟨HA.out.1, q6, a7, a6⟩
            have N6 : (Tr.bl (.node g b bs' l' (rotRt r') h1)).Nodup := (bl_node rfl (List.Perm.refl _) p4).nodup_iff.2 HN.out
            have P6 : (Tr.bl (.node g b bs' l' (rotRt r') h1)).Perm (g :: (l'.bl ++ r'.bl)) := bl_node (b := b) (b' := b) (bs := bs') (bs' := bs') (h := h1) (h' := h1) rfl (List.Perm.refl _) p4
            generalize w4.setRow g (cellsN b bs' l'.p (rotRt r').p h1) = W6 at A6 s6 C6 ⊢
            refine (rotLt_calls (.node g b bs' l' (rotRt r') h1) W6 A6 N6 ⟨HGD.out.1, rotRt_good _ HGD.out.2.1⟩ (by have := HGD.out.2.2; show l'.sz + (rotRt r').sz + 1 ≤ 20000; rw [rotRt_sz]; omega) (by obtain ⟨g9, b9, bs9, l9, r9, k9, hz9⟩ := rotRt_shape HSHP.out; rw [hz9]; exact ⟨_, _, _, _, _, _, _, _, _, _, _, rfl⟩)).mono ?_
            rintro e w7 ⟨rfl, a9, c9⟩
            have EQ : balT g b bs' l' r' = rotLt (.node g b bs' l' (rotRt r') h1) := by
              unfold balT
              simp only
              rw [if_neg (show ¬ 1 < l'.ht - r'.ht by have h := HD.out; rw [show bF (.node g b bs' l' r' h1) = l'.ht - r'.ht from rfl] at h; omega), if_pos (show l'.ht - r'.ht < -1 by have h := HD.out; rw [show bF (.node g b bs' l' r' h1) = l'.ht - r'.ht from rfl] at h; omega), if_pos (show 0 < bF r' by rw [← HD2.out]; exact of_decide_eq_true c2'), ← HH1.out]
            have C9 := C6.trans c9 (fun x h => h) (fun x hx => HNS.out.2.2 x (P6.subset hx))
            have s9 : w7.heap[SS]? = _ := (c9.keep SS (Array.getElem?_eq_some_iff.1 s6).1 (fun hh => (List.mem_cons.1 (P6.subset hh)).elim (fun e => HNS.out.1 e) HNS.out.2.1)).trans s6
            have H9 := Aside0.mk (And.intro EQ (And.intro a9 (And.intro s9 C9)))
            clear H4 a4 a5 q4 s4 C4 p4 hgn c6 q6 nd a6 a7 s6 C6 A6 N6 P6 c9 a9 s9 C9 EQ f4 n4
            go_wp2_with fail
            go_ret
            obtain ⟨EQ, a9, s9, C9⟩ := H9.out
            rw [HI.out, EQ]
            exact ⟨rfl, a9, s9, C9⟩
          · have c2' : decide (0 < d2) = false := decide_eq_false c2
            go_wp2_with fail
            refine (rotLt_calls (.node g b bs' l' r' h1) w3 HA1.out HN.out ⟨HGD.out.1, HGD.out.2.1⟩ HG1.out.2 (by rw [HSH.out]; exact ⟨_, _, _, _, _, _, _, _, _, _, _, rfl⟩)).mono ?_
            rintro e w7 ⟨rfl, a9, c9⟩
            have EQ : balT g b bs' l' r' = rotLt (.node g b bs' l' r' h1) := by
              unfold balT
              simp only
              rw [if_neg (show ¬ 1 < l'.ht - r'.ht by have h := HD.out; rw [show bF (.node g b bs' l' r' h1) = l'.ht - r'.ht from rfl] at h; omega), if_pos (show l'.ht - r'.ht < -1 by have h := HD.out; rw [show bF (.node g b bs' l' r' h1) = l'.ht - r'.ht from rfl] at h; omega), if_neg (show ¬ 0 < bF r' by rw [← HD2.out]; exact of_decide_eq_false c2'), ← HH1.out]
            have C9 := HC1.out.trans c9 (fun x h => h) (fun x hx => HNS.out.2.2 x hx)
            have s9 : w7.heap[SS]? = _ := (c9.keep SS (Array.getElem?_eq_some_iff.1 HS1.out).1 (fun hh => (List.mem_cons.1 hh).elim (fun e => HNS.out.1 e) HNS.out.2.1)).trans HS1.out
            have H9 := Aside0.mk (And.intro EQ (And.intro a9 (And.intro s9 C9)))
            clear c9 a9 s9 C9 EQ nl nr fl fr c2
            go_wp2_with fail
            go_ret
            obtain ⟨EQ, a9, s9, C9⟩ := H9.out
            rw [HI.out, EQ]
            exact ⟨rfl, a9, s9, C9⟩
        · have c3' : decide (d < -1) = false := decide_eq_false c3
          have EQ : balT g b bs' l' r' = .node g b bs' l' r' h1 := by
            unfold balT
            simp only
            have h := HD.out
            rw [show bF (.node g b bs' l' r' h1) = l'.ht - r'.ht from rfl] at h
            rw [if_neg (show ¬ 1 < l'.ht - r'.ht by omega), if_neg (show ¬ l'.ht - r'.ht < -1 by omega), ← HH1.out]
          have H9 := Aside0.mk (And.intro EQ (And.intro HA1.out (And.intro HS1.out HC1.out)))
          clear EQ nl nr fl fr c1 c3
          go_wp2_with fail
          go_ret
          obtain ⟨EQ, a9, s9, C9⟩ := H9.out
          rw [HI.out, EQ]
          exact ⟨rfl, a9, s9, C9⟩
    | node gx bx bsx lx rx hx =>
      replace kl : w.cell? ⟨g, 33, none⟩ = some (.pointer (some ⟨gx, 0, none⟩)) := kl
      obtain ⟨l, hL⟩ : ∃ l, l = Tr.node gx bx bsx lx rx hx := ⟨_, rfl⟩
      have hlp : (Value.pointer (some ⟨gx, 0, none⟩)) = l.p := by rw [hL]; rfl
      have hln : l ≠ .nil := by rw [hL]; simp
      rw [← hL] at ihl HH HM
      rw [← hL]
      have HLP := Aside0.mk (And.intro hlp hln)
      clear cutrel hL hlp hln
      go_enter Tryd.func87, Tryd.ntmps87
      go_wp2_with fail
      rw [HLP.out.1]
      refine (ihl w HLP.out.2 HH.out.1.2.2.1 HH.out.2.1 (List.nodup_append.2 ⟨HH.out.2.2.2.2.2.2.1.1, HH.out.2.2.2.2.2.2.2.2.2.2.2.2.2.2, fun x hx y hy e => HH.out.2.2.2.2.2.2.2.2.2.2.2.2.1 x hx (e ▸ hy)⟩) HH.out.2.2.1.2.1 (by have := HH.out.2.2.2.1; omega) HH.out.2.2.2.2.1 (fun e => (List.mem_append.1 e).elim HH.out.2.2.2.2.2.2.2.2.1 HH.out.2.2.2.2.2.2.2.2.2.2.1)).mono ?_
      rintro e w1 ⟨rfl, a1, s1, c1⟩
      have hm := HM.out w1 (prevT nn l) a1 (prevT_bl nn l) (prevT_good nn hgn l HH.out.2.2.1.2.1) (prevT_sz nn l) s1 c1
      have HM2 := Aside0.mk hm
      have cl1 := nd_l hm.1 HH.out.1.1
      have fl1 := nd_free hm.1 33
      obtain ⟨Y, hY⟩ : ∃ Y, Y = (prevT nn l).pp := ⟨_, rfl⟩
      rw [show (prevT nn l).p = .pointer Y by rw [hY]]
      have HY := Aside0.mk hY
      clear hm a1 s1 c1 hY
      go_upto_region 4 with fail
      rw [show (Value.pointer Y) = (prevT nn l).p by rw [HY.out], nd_setL HM2.out.1 HH.out.1.1]
      clear cl1 fl1
      obtain ⟨q1, hA, hN, hGD, hSS, hCH, hNS⟩ := HM2.out
      generalize w1.setRow g (cellsN b bs (prevT nn l).p r.p h0) = wc at hA hSS hCH ⊢
      obtain ⟨bs', l', r', HI, HA, HN, HGD, HSS, HCH, HNS⟩ : ∃ (bs' : List Nat) (l' r' : Tr), Aside0 (prevT nn (.node g b bs l r h0) = balT g b bs' l' r') ∧ Aside0 (Tr.at wc (.node g b bs' l' r' h0)) ∧ Aside0 ((Tr.node g b bs' l' r' h0).bl.Nodup) ∧ Aside0 (l'.good ∧ r'.good ∧ l'.sz + r'.sz ≤ 10001) ∧ Aside0 (wc.heap[SS]? = some X) ∧ Aside0 (Chg (SS :: ((Tr.node g b bs l r h0).bl ++ nn.bl)) w wc) ∧ Aside0 (SS ≠ g ∧ SS ∉ l'.bl ++ r'.bl ∧ ∀ x ∈ (g :: (l'.bl ++ r'.bl)), x < w.heap.size → x ∈ SS :: ((Tr.node g b bs l r h0).bl ++ nn.bl)) := ⟨bs, (prevT nn l), r, ⟨rfl⟩, ⟨hA⟩, ⟨hN⟩, ⟨hGD⟩, ⟨hSS⟩, ⟨hCH⟩, ⟨hNS⟩⟩
      clear q1 hA hN hGD hSS hCH hNS kl fl
      go_wp2_with fail
      refine (maxH_calls (.node g b bs' l' r' h0) wc HA.out).mono ?_
      rintro e w1 ⟨rfl, rfl⟩
      obtain ⟨x, hx⟩ : ∃ x, x = mH (.node g b bs' l' r' h0) := ⟨_, rfl⟩
      rw [← hx]
      have HX := Aside0.mk hx
      clear hx
      have n1 := nd_free HA.out.2.1 35
      have n2 := nd_h HA.out.2.1 HA.out.1
      go_wp2_with fail
      have ex : wrap64 (x + 1) = mH (.node g b bs' l' r' 0) + 1 := by
        have h1 := mH_sz g b bs' l' r' h0 HGD.out.1 HGD.out.2.1
        have h2 := HGD.out.2.2
        rw [HX.out, show mH (.node g b bs' l' r' 0) = mH (.node g b bs' l' r' h0) from rfl]
        exact Road.w64 _ _ rfl (by omega) (by omega)
      rw [ex, nd_setH HA.out.2.1 HA.out.1]
      obtain ⟨h1, hh1⟩ : ∃ h1, h1 = mH (.node g b bs' l' r' 0) + 1 := ⟨_, rfl⟩
      rw [← hh1]
      have HH1 := Aside0.mk hh1
      clear ex n1 n2 hh1
      have C1 := HCH.out.trans (Chg.row w1 g (cellsN b bs' l'.p r'.p h1)) (fun x h => h) (fun x hx => HNS.out.2.2 x (by rw [List.mem_singleton.1 hx]; exact List.mem_cons_self))
      have C1a := Chg.row w1 g (cellsN b bs' l'.p r'.p h1)
      have q1 := setRow_heap w1 g _ (cellsN b bs' l'.p r'.p h1) _ _ HA.out.2.1
      have nd := List.nodup_cons.1 HN.out
      have A1 : Tr.at (w1.setRow g (cellsN b bs' l'.p r'.p h1)) (.node g b bs' l' r' h1) := ⟨HA.out.1, q1, at_keep C1a l' HA.out.2.2.1 (fun y hy => by simp; rintro rfl; exact nd.1 (List.mem_append_left _ hy)), at_keep C1a r' HA.out.2.2.2 (fun y hy => by simp; rintro rfl; exact nd.1 (List.mem_append_right _ hy))⟩
      have S1 : (w1.setRow g (cellsN b bs' l'.p r'.p h1)).heap[SS]? = _ := (setRow_other _ _ _ _ HNS.out.1).trans HSS.out
      generalize w1.setRow g (cellsN b bs' l'.p r'.p h1) = W1 at C1 A1 S1 ⊢
      have HC1 := Aside0.mk C1
      have HA1 := Aside0.mk A1
      have HS1 := Aside0.mk S1
      clear C1 C1a q1 nd A1 S1
      have G1 : (Tr.node g b bs' l' r' h1).good := ⟨by rw [HH1.out]; rfl, HGD.out.1, HGD.out.2.1⟩
      have Z1 : (Tr.node g b bs' l' r' h1).sz ≤ 20000 := by have := HGD.out.2.2; show l'.sz + r'.sz + 1 ≤ 20000; omega
      refine (balF_calls (.node g b bs' l' r' h1) W1 HA1.out (bF_sz _ G1 Z1)).mono ?_
      rintro e w2 ⟨rfl, rfl⟩
      obtain ⟨d, hd⟩ : ∃ d, d = bF (.node g b bs' l' r' h1) := ⟨_, rfl⟩
      rw [← hd]
      have HD := Aside0.mk hd
      have HG1 := Aside0.mk (And.intro G1 Z1)
      clear hd G1 Z1
      have nl : w2.cell? ⟨g, 33, none⟩ = some (.pointer l'.pp) := nd_l HA1.out.2.1 HA1.out.1
      have nr : w2.cell? ⟨g, 34, none⟩ = some (.pointer r'.pp) := nd_r HA1.out.2.1 HA1.out.1
      have fl := nd_free HA1.out.2.1 33
      have fr := nd_free HA1.out.2.1 34
      by_cases c1 : 1 < d
      · have c1' : decide (1 < d) = true := decide_eq_true c1
        obtain ⟨g1, b1, bs1, lx, rx, k1, hs⟩ := left_of (show (Tr.node g b bs' l' r' h1).good from HG1.out.1) (by rw [← HD.out]; omega)
        have HSH := Aside0.mk hs
        clear hs
        have esp : l'.pp = some ⟨g1, 0, none⟩ := by rw [HSH.out]; rfl
        rw [esp] at nl
        have HESP := Aside0.mk esp
        clear esp
        go_wp2_with fail
        have hbs := balF_calls l' w2 HA1.out.2.2.1 (bF_sz l' HGD.out.1 (by have := HGD.out.2.2; omega))
        rw [show l'.p = .pointer (some ⟨g1, 0, none⟩) by rw [Tr.p, HESP.out]] at hbs
        refine hbs.mono ?_
        clear hbs
        rintro e w3 ⟨rfl, rfl⟩
        obtain ⟨d2, hd2⟩ : ∃ d2, d2 = bF l' := ⟨_, rfl⟩
        rw [← hd2]
        have HD2 := Aside0.mk hd2
        clear hd2
        by_cases c2 : d2 < 0
        · have c2' : decide (d2 < 0) = true := decide_eq_true c2
          obtain ⟨g3, b3, bs3, ly, ry, k3, ht⟩ := right_of (by rw [← HSH.out]; exact HGD.out.1 : (Tr.node g1 b1 bs1 lx rx k1).good) (by rw [← HSH.out, ← HD2.out]; omega)
          have hshape : ∃ g b bs o g2 b2 bs2 i p k2 h, l' = .node g b bs o (.node g2 b2 bs2 i p k2) h := ⟨_, _, _, _, _, _, _, _, _, _, _, by rw [HSH.out, ht]⟩
          have HSHP := Aside0.mk hshape
          clear ht hshape c2
          go_wp2_with fail
          have nd := List.nodup_cons.1 HN.out
          have hrc := rotLt_calls l' w3 HA1.out.2.2.1 (List.nodup_append.1 nd.2).1 (by rw [HSH.out]; have := HGD.out.1; rw [HSH.out] at this; exact ⟨this.2.1, this.2.2⟩) (by have := HGD.out.2.2; omega) HSHP.out
          rw [show l'.p = .pointer (some ⟨g1, 0, none⟩) by rw [Tr.p, HESP.out]] at hrc
          refine hrc.mono ?_
          clear hrc
          rintro e w4 ⟨rfl, a4, c4⟩
          have p4 := rotLt_bl l'
          have hgn : g ∉ l'.bl := fun hh => nd.1 (List.mem_append_left _ hh)
          have q4 : w4.heap[g]? = _ := (c4.keep g (Array.getElem?_eq_some_iff.1 HA1.out.2.1).1 hgn).trans HA1.out.2.1
          have a5 : r'.at w4 := at_keep c4 r' HA1.out.2.2.2 (fun y hy hy2 => (List.nodup_append.1 nd.2).2.2 y hy2 y hy rfl)
          have s4 : w4.heap[SS]? = _ := (c4.keep SS (Array.getElem?_eq_some_iff.1 HS1.out).1 (fun hh => HNS.out.2.1 (List.mem_append_left _ hh))).trans HS1.out
          have C4 := HC1.out.trans c4 (fun x h => h) (fun x hx => HNS.out.2.2 x (List.mem_cons_of_mem _ (List.mem_append_left _ hx)))
          have f4 := nd_free q4 33
          have n4 := nd_l q4 HA.out.1
          have H4 := Aside0.mk (And.intro a4 (And.intro a5 (And.intro q4 (And.intro s4 (And.intro C4 (And.intro p4 hgn))))))
          obtain ⟨g5, b5, bs5, l5, r5, k5, ht5⟩ := rotLt_shape HSHP.out
          have e5 : (rotLt l').pp = some ⟨g5, 0, none⟩ := by rw [ht5]; rfl
          rw [Tr.p, e5]
          have HE5 := Aside0.mk e5
          clear nd a4 a5 q4 s4 c4 C4 p4 hgn ht5 e5 nl nr fl fr
          go_wp2_with fail
          rw [show (Value.pointer (some ⟨g5, 0, none⟩)) = (rotLt l').p by rw [Tr.p, HE5.out], nd_setL H4.out.2.2.1 HA.out.1]
          obtain ⟨a4, a5, q4, s4, C4, p4, hgn⟩ := H4.out
          have c6 := Chg.row w4 g (cellsN b bs' (rotLt l').p r'.p h1)
          have q6 := setRow_heap w4 g _ (cellsN b bs' (rotLt l').p r'.p h1) _ _ q4
          have nd := List.nodup_cons.1 HN.out
          have a6 : (rotLt l').at (w4.setRow g (cellsN b bs' (rotLt l').p r'.p h1)) := at_keep c6 _ a4 (fun y hy => by simp; rintro rfl; exact hgn (p4.subset hy))
          have a7 : r'.at (w4.setRow g (cellsN b bs' (rotLt l').p r'.p h1)) := at_keep c6 _ a5 (fun y hy => by simp; rintro rfl; exact nd.1 (List.mem_append_right _ hy))
          have s6 : (w4.setRow g (cellsN b bs' (rotLt l').p r'.p h1)).heap[SS]? = _ := (setRow_other _ _ _ _ HNS.out.1).trans s4
          have C6 := C4.trans c6 (fun x h => h) (fun x hx => HNS.out.2.2 x (by rw [List.mem_singleton.1 hx]; exact List.mem_cons_self))
          have A6 : Tr.at (w4.setRow g (cellsN b bs' (rotLt l').p r'.p h1)) (.node g b bs' (rotLt l') r' h1) := ⟨HA.out.1, q6, a6, a7⟩
          have N6 : (Tr.bl (.node g b bs' (rotLt l') r' h1)).Nodup := (bl_node rfl p4 (List.Perm.refl _)).nodup_iff.2 HN.out
          have P6 : (Tr.bl (.node g b bs' (rotLt l') r' h1)).Perm (g :: (l'.bl ++ r'.bl)) := bl_node (b := b) (b' := b) (bs := bs') (bs' := bs') (h := h1) (h' := h1) rfl p4 (List.Perm.refl _)
          generalize w4.setRow g (cellsN b bs' (rotLt l').p r'.p h1) = W6 at A6 s6 C6 ⊢
          refine (rotRt_calls (.node g b bs' (rotLt l') r' h1) W6 A6 N6 ⟨rotLt_good _ HGD.out.1, HGD.out.2.1⟩ (by have := HGD.out.2.2; show (rotLt l').sz + r'.sz + 1 ≤ 20000; rw [rotLt_sz]; omega) (by obtain ⟨g9, b9, bs9, l9, r9, k9, hz9⟩ := rotLt_shape HSHP.out; rw [hz9]; exact ⟨_, _, _, _, _, _, _, _, _, _, _, rfl⟩)).mono ?_
          rintro e w7 ⟨rfl, a9, c9⟩
          have EQ : balT g b bs' l' r' = rotRt (.node g b bs' (rotLt l') r' h1) := by
            unfold balT
            simp only
            rw [if_pos (show 1 < l'.ht - r'.ht by have h := HD.out; rw [show bF (.node g b bs' l' r' h1) = l'.ht - r'.ht from rfl] at h; omega), if_pos (show bF l' < 0 by rw [← HD2.out]; exact of_decide_eq_true c2'), ← HH1.out]
          have C9 := C6.trans c9 (fun x h => h) (fun x hx => HNS.out.2.2 x (P6.subset hx))
          have s9 : w7.heap[SS]? = _ := (c9.keep SS (Array.getElem?_eq_some_iff.1 s6).1 (fun hh => (List.mem_cons.1 (P6.subset hh)).elim (fun e => HNS.out.1 e) HNS.out.2.1)).trans s6
          have H9 := Aside0.mk (And.intro EQ (And.intro a9 (And.intro s9 C9)))
          clear H4 a4 a5 q4 s4 C4 p4 hgn c6 q6 nd a6 a7 s6 C6 A6 N6 P6 c9 a9 s9 C9 EQ f4 n4
          go_wp2_with fail
          go_ret
          obtain ⟨EQ, a9, s9, C9⟩ := H9.out
          rw [HI.out, EQ]
          exact ⟨rfl, a9, s9, C9⟩
        · have c2' : decide (d2 < 0) = false := decide_eq_false c2
          go_wp2_with fail
          refine (rotRt_calls (.node g b bs' l' r' h1) w3 HA1.out HN.out ⟨HGD.out.1, HGD.out.2.1⟩ HG1.out.2 (by rw [HSH.out]; exact ⟨_, _, _, _, _, _, _, _, _, _, _, rfl⟩)).mono ?_
          rintro e w7 ⟨rfl, a9, c9⟩
          have EQ : balT g b bs' l' r' = rotRt (.node g b bs' l' r' h1) := by
            unfold balT
            simp only
            rw [if_pos (show 1 < l'.ht - r'.ht by have h := HD.out; rw [show bF (.node g b bs' l' r' h1) = l'.ht - r'.ht from rfl] at h; omega), if_neg (show ¬ bF l' < 0 by rw [← HD2.out]; exact of_decide_eq_false c2'), ← HH1.out]
          have C9 := HC1.out.trans c9 (fun x h => h) (fun x hx => HNS.out.2.2 x hx)
          have s9 : w7.heap[SS]? = _ := (c9.keep SS (Array.getElem?_eq_some_iff.1 HS1.out).1 (fun hh => (List.mem_cons.1 hh).elim (fun e => HNS.out.1 e) HNS.out.2.1)).trans HS1.out
          have H9 := Aside0.mk (And.intro EQ (And.intro a9 (And.intro s9 C9)))
          clear c9 a9 s9 C9 EQ nl nr fl fr c2
          go_wp2_with fail
          go_ret
          obtain ⟨EQ, a9, s9, C9⟩ := H9.out
          rw [HI.out, EQ]
          exact ⟨rfl, a9, s9, C9⟩
      · have c1' : decide (1 < d) = false := decide_eq_false c1
        by_cases c3 : d < -1
        · have c3' : decide (d < -1) = true := decide_eq_true c3
          obtain ⟨g1, b1, bs1, lx, rx, k1, hs⟩ := right_of (show (Tr.node g b bs' l' r' h1).good from HG1.out.1) (by rw [← HD.out]; omega)
          have HSH := Aside0.mk hs
          clear hs
          have esp : r'.pp = some ⟨g1, 0, none⟩ := by rw [HSH.out]; rfl
          rw [esp] at nr
          have HESP := Aside0.mk esp
          clear esp
          go_wp2_with fail
          have hbs := balF_calls r' w2 HA1.out.2.2.2 (bF_sz r' HGD.out.2.1 (by have := HGD.out.2.2; omega))
          rw [show r'.p = .pointer (some ⟨g1, 0, none⟩) by rw [Tr.p, HESP.out]] at hbs
          refine hbs.mono ?_
          clear hbs
          rintro e w3 ⟨rfl, rfl⟩
          obtain ⟨d2, hd2⟩ : ∃ d2, d2 = bF r' := ⟨_, rfl⟩
          rw [← hd2]
          have HD2 := Aside0.mk hd2
          clear hd2
          by_cases c2 : 0 < d2
          · have c2' : decide (0 < d2) = true := decide_eq_true c2
            obtain ⟨g3, b3, bs3, ly, ry, k3, ht⟩ := left_of (by rw [← HSH.out]; exact HGD.out.2.1 : (Tr.node g1 b1 bs1 lx rx k1).good) (by rw [← HSH.out, ← HD2.out]; omega)
            have hshape : ∃ g b bs o g2 b2 bs2 i p k2 h, r' = .node g b bs (.node g2 b2 bs2 p i k2) o h := ⟨_, _, _, _, _, _, _, _, _, _, _, by rw [HSH.out, ht]⟩
            have HSHP := Aside0.mk hshape
            clear ht hshape c2
            go_wp2_with fail
            have nd := List.nodup_cons.1 HN.out
            have hrc := rotRt_calls r' w3 HA1.out.2.2.2 (List.nodup_append.1 nd.2).2.1 (by rw [HSH.out]; have := HGD.out.2.1; rw [HSH.out] at this; exact ⟨this.2.1, this.2.2⟩) (by have := HGD.out.2.2; omega) HSHP.out
            rw [show r'.p = .pointer (some ⟨g1, 0, none⟩) by rw [Tr.p, HESP.out]] at hrc
            refine hrc.mono ?_
            clear hrc
            rintro e w4 ⟨rfl, a4, c4⟩
            have p4 := rotRt_bl r'
            have hgn : g ∉ r'.bl := fun hh => nd.1 (List.mem_append_right _ hh)
            have q4 : w4.heap[g]? = _ := (c4.keep g (Array.getElem?_eq_some_iff.1 HA1.out.2.1).1 hgn).trans HA1.out.2.1
            have a5 : l'.at w4 := at_keep c4 l' HA1.out.2.2.1 (fun y hy hy2 => (List.nodup_append.1 nd.2).2.2 y hy y hy2 rfl)
            have s4 : w4.heap[SS]? = _ := (c4.keep SS (Array.getElem?_eq_some_iff.1 HS1.out).1 (fun hh => HNS.out.2.1 (List.mem_append_right _ hh))).trans HS1.out
            have C4 := HC1.out.trans c4 (fun x h => h) (fun x hx => HNS.out.2.2 x (List.mem_cons_of_mem _ (List.mem_append_right _ hx)))
            have f4 := nd_free q4 34
            have n4 := nd_r q4 HA.out.1
            have H4 := Aside0.mk (And.intro a4 (And.intro a5 (And.intro q4 (And.intro s4 (And.intro C4 (And.intro p4 hgn))))))
            obtain ⟨g5, b5, bs5, l5, r5, k5, ht5⟩ := rotRt_shape HSHP.out
            have e5 : (rotRt r').pp = some ⟨g5, 0, none⟩ := by rw [ht5]; rfl
            rw [Tr.p, e5]
            have HE5 := Aside0.mk e5
            clear nd a4 a5 q4 s4 c4 C4 p4 hgn ht5 e5 nl nr fl fr
            go_wp2_with fail
            rw [show (Value.pointer (some ⟨g5, 0, none⟩)) = (rotRt r').p by rw [Tr.p, HE5.out], nd_setR H4.out.2.2.1 HA.out.1]
            obtain ⟨a4, a5, q4, s4, C4, p4, hgn⟩ := H4.out
            have c6 := Chg.row w4 g (cellsN b bs' l'.p (rotRt r').p h1)
            have q6 := setRow_heap w4 g _ (cellsN b bs' l'.p (rotRt r').p h1) _ _ q4
            have nd := List.nodup_cons.1 HN.out
            have a6 : (rotRt r').at (w4.setRow g (cellsN b bs' l'.p (rotRt r').p h1)) := at_keep c6 _ a4 (fun y hy => by simp; rintro rfl; exact hgn (p4.subset hy))
            have a7 : l'.at (w4.setRow g (cellsN b bs' l'.p (rotRt r').p h1)) := at_keep c6 _ a5 (fun y hy => by simp; rintro rfl; exact nd.1 (List.mem_append_left _ hy))
            have s6 : (w4.setRow g (cellsN b bs' l'.p (rotRt r').p h1)).heap[SS]? = _ := (setRow_other _ _ _ _ HNS.out.1).trans s4
            have C6 := C4.trans c6 (fun x h => h) (fun x hx => HNS.out.2.2 x (by rw [List.mem_singleton.1 hx]; exact List.mem_cons_self))
            have A6 : Tr.at (w4.setRow g (cellsN b bs' l'.p (rotRt r').p h1)) (.node g b bs' l' (rotRt r') h1) := ⟨HA.out.1, q6, a7, a6⟩
            have N6 : (Tr.bl (.node g b bs' l' (rotRt r') h1)).Nodup := (bl_node rfl (List.Perm.refl _) p4).nodup_iff.2 HN.out
            have P6 : (Tr.bl (.node g b bs' l' (rotRt r') h1)).Perm (g :: (l'.bl ++ r'.bl)) := bl_node (b := b) (b' := b) (bs := bs') (bs' := bs') (h := h1) (h' := h1) rfl (List.Perm.refl _) p4
            generalize w4.setRow g (cellsN b bs' l'.p (rotRt r').p h1) = W6 at A6 s6 C6 ⊢
            refine (rotLt_calls (.node g b bs' l' (rotRt r') h1) W6 A6 N6 ⟨HGD.out.1, rotRt_good _ HGD.out.2.1⟩ (by have := HGD.out.2.2; show l'.sz + (rotRt r').sz + 1 ≤ 20000; rw [rotRt_sz]; omega) (by obtain ⟨g9, b9, bs9, l9, r9, k9, hz9⟩ := rotRt_shape HSHP.out; rw [hz9]; exact ⟨_, _, _, _, _, _, _, _, _, _, _, rfl⟩)).mono ?_
            rintro e w7 ⟨rfl, a9, c9⟩
            have EQ : balT g b bs' l' r' = rotLt (.node g b bs' l' (rotRt r') h1) := by
              unfold balT
              simp only
              rw [if_neg (show ¬ 1 < l'.ht - r'.ht by have h := HD.out; rw [show bF (.node g b bs' l' r' h1) = l'.ht - r'.ht from rfl] at h; omega), if_pos (show l'.ht - r'.ht < -1 by have h := HD.out; rw [show bF (.node g b bs' l' r' h1) = l'.ht - r'.ht from rfl] at h; omega), if_pos (show 0 < bF r' by rw [← HD2.out]; exact of_decide_eq_true c2'), ← HH1.out]
            have C9 := C6.trans c9 (fun x h => h) (fun x hx => HNS.out.2.2 x (P6.subset hx))
            have s9 : w7.heap[SS]? = _ := (c9.keep SS (Array.getElem?_eq_some_iff.1 s6).1 (fun hh => (List.mem_cons.1 (P6.subset hh)).elim (fun e => HNS.out.1 e) HNS.out.2.1)).trans s6
            have H9 := Aside0.mk (And.intro EQ (And.intro a9 (And.intro s9 C9)))
            clear H4 a4 a5 q4 s4 C4 p4 hgn c6 q6 nd a6 a7 s6 C6 A6 N6 P6 c9 a9 s9 C9 EQ f4 n4
            go_wp2_with fail
            go_ret
            obtain ⟨EQ, a9, s9, C9⟩ := H9.out
            rw [HI.out, EQ]
            exact ⟨rfl, a9, s9, C9⟩
          · have c2' : decide (0 < d2) = false := decide_eq_false c2
            go_wp2_with fail
            refine (rotLt_calls (.node g b bs' l' r' h1) w3 HA1.out HN.out ⟨HGD.out.1, HGD.out.2.1⟩ HG1.out.2 (by rw [HSH.out]; exact ⟨_, _, _, _, _, _, _, _, _, _, _, rfl⟩)).mono ?_
            rintro e w7 ⟨rfl, a9, c9⟩
            have EQ : balT g b bs' l' r' = rotLt (.node g b bs' l' r' h1) := by
              unfold balT
              simp only
              rw [if_neg (show ¬ 1 < l'.ht - r'.ht by have h := HD.out; rw [show bF (.node g b bs' l' r' h1) = l'.ht - r'.ht from rfl] at h; omega), if_pos (show l'.ht - r'.ht < -1 by have h := HD.out; rw [show bF (.node g b bs' l' r' h1) = l'.ht - r'.ht from rfl] at h; omega), if_neg (show ¬ 0 < bF r' by rw [← HD2.out]; exact of_decide_eq_false c2'), ← HH1.out]
            have C9 := HC1.out.trans c9 (fun x h => h) (fun x hx => HNS.out.2.2 x hx)
            have s9 : w7.heap[SS]? = _ := (c9.keep SS (Array.getElem?_eq_some_iff.1 HS1.out).1 (fun hh => (List.mem_cons.1 hh).elim (fun e => HNS.out.1 e) HNS.out.2.1)).trans HS1.out
            have H9 := Aside0.mk (And.intro EQ (And.intro a9 (And.intro s9 C9)))
            clear c9 a9 s9 C9 EQ nl nr fl fr c2
            go_wp2_with fail
            go_ret
            obtain ⟨EQ, a9, s9, C9⟩ := H9.out
            rw [HI.out, EQ]
            exact ⟨rfl, a9, s9, C9⟩
        · have c3' : decide (d < -1) = false := decide_eq_false c3
          have EQ : balT g b bs' l' r' = .node g b bs' l' r' h1 := by
            unfold balT
            simp only
            have h := HD.out
            rw [show bF (.node g b bs' l' r' h1) = l'.ht - r'.ht from rfl] at h
            rw [if_neg (show ¬ 1 < l'.ht - r'.ht by omega), if_neg (show ¬ l'.ht - r'.ht < -1 by omega), ← HH1.out]
          have H9 := Aside0.mk (And.intro EQ (And.intro HA1.out (And.intro HS1.out HC1.out)))
          clear EQ nl nr fl fr c1 c3
          go_wp2_with fail
          go_ret
          obtain ⟨EQ, a9, s9, C9⟩ := H9.out
          rw [HI.out, EQ]
          exact ⟨rfl, a9, s9, C9⟩

end Go.Proofs.YtjhdnapgdajllaaDoor.SetW
