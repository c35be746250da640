/- WALKS: from a topic (a filter) to a subject, and the closure in it. -/
import Derived.Test.YtmfblbjklmgncaaDoorProg
import Derived.Below
import Derived.Deep.Draws
import Derived.Deep.AppendLies
import Derived.Maps.AppendAt
import Derived.OwnWalk
import Derived.Laws.BytesArg
import Derived.Laws.MakeOwn
import Derived.Laws.OwnMore
import Derived.Deep.OwnRows
import Derived.Tactics
import Derived.Lib.ConvBytes
import Derived.Laws.Slices
import Derived.WalkKit
import Derived.KernelRfl
import Derived.RowKit3
import Derived.Deep.LoopGhost
import Derived.Deep.QuietTactic
import Derived.BigQuiet
import Derived.WideLaws
import Derived.Deep.DeepCutAuto
import Derived.Deep.CutBlock
import Derived.Deep.RegionHeld3
import Derived.Laws.Rows
import Derived.Lib.AppendStr
import Derived.ArgAppend
import Derived.Laws.IdiomCopy
import Derived.OrdersHeld
import Derived.Laws.BitsLemmas
import Derived.RowKit
import Derived.Test.YtmfblbjklmgncaaDoorRoad
import Derived.Test.YtmfblbjklmgncaaDoorRunes
import Derived.Test.YtmfblbjklmgncaaDoorWWords
import Derived.Test.YtmfblbjklmgncaaDoorWLast
import Derived.Test.YtmfblbjklmgncaaDoorWTab
import Derived.Test.YtmfblbjklmgncaaDoorWFour
import Derived.Test.YtmfblbjklmgncaaDoorWQPut
import Derived.Test.YtmfblbjklmgncaaDoorWApart
import Derived.Test.YtmfblbjklmgncaaDoorWArr
import Derived.Test.YtmfblbjklmgncaaDoorWZeros
import Derived.Test.YtmfblbjklmgncaaDoorWFoot
import Derived.Test.YtmfblbjklmgncaaDoorWKept
import Derived.Test.YtmfblbjklmgncaaDoorWShare
import Derived.Test.YtmfblbjklmgncaaDoorWN
import Derived.Test.YtmfblbjklmgncaaDoorWFootNe
import Derived.Test.YtmfblbjklmgncaaDoorWAt
import Derived.Test.YtmfblbjklmgncaaDoorWEqStruct
import Derived.Test.YtmfblbjklmgncaaDoorWRepsOne
import Derived.Test.YtmfblbjklmgncaaDoorWInv
import Derived.Test.YtmfblbjklmgncaaDoorWInvWords
import Derived.Test.YtmfblbjklmgncaaDoorWGuard
import Derived.Test.YtmfblbjklmgncaaDoorWNEv
import Derived.Test.YtmfblbjklmgncaaDoorWMore
import Derived.Deep.RegionLaw
import Derived.BigRegion
import Derived.StillTailTactics
import Derived.OneCell
import Derived.RegionTactic
namespace Go.Proofs.YtmfblbjklmgncaaDoor.TopicW
open Go.RowKit Go.Proofs.YtmfblbjklmgncaaDoorW.PrintWords Go.Proofs.YtmfblbjklmgncaaDoorW.PrintLast Go.Proofs.YtmfblbjklmgncaaDoorW.PrintMore
attribute [local go_sem] max2_int min2_int max_two min_two max_three min_three max_four min_four   -- for this text's walks alone
set_option linter.unusedVariables false
set_option linter.unusedSimpArgs false



theorem uinfo : (Tryd.prog.info? 5).map (fun i => (i.zero, i.size, i.bytes)) = some (some (.int .u8 0), 1, 1) := by kernel_rfl
/-- Where the conversion stands: the variables that its closure captures. -/
structure St (B g c : Nat) (cur : Array Value) (w0 : World) (l : List Int) (cp : Bool) (vr : Value) (w : World) : Prop where
  sz : B + 3 ≤ w.heap.size
  hmt : w.heap[B]? = some (.cells #[.slice (some ⟨g, 0, none⟩) l.length c] 22 (0, 0))
  hcp : w.heap[B + 1]? = some (.cells #[.bool cp] 4 (0, 0))
  hres : w.heap[B + 1 + 1]? = some (.cells #[vr] 22 (0, 0))
  hrow : w.heap[g]? = some (.cells cur 5 (0, 0))
  below : Below B w0 w
theorem St.grown {B g c : Nat} {cur : Array Value} {w0 : World} {l : List Int} {cp : Bool} {vr : Value} {w w' : World} {row : Option Nat} (h : St B g c cur w0 l cp vr w) (hg : w.grownBy w' row)
    (hr : ∀ k, row = some k → B + 3 ≤ k) (hgB : g < B) : St B g c cur w0 l cp vr w' := by
  have hne : ∀ k, k < B + 3 → k < w.heap.size ∧ some k ≠ row := fun k hk => ⟨by have := h.sz; omega, fun e => by have := hr k e.symm; omega⟩
  refine ⟨Nat.le_trans h.sz hg.size, ?_, ?_, ?_, ?_, ?_⟩
  · exact (hg.block B (hne _ (by omega)).1 (hne _ (by omega)).2).trans h.hmt
  · exact (hg.block (B + 1) (hne _ (by omega)).1 (hne _ (by omega)).2).trans h.hcp
  · exact (hg.block (B + 1 + 1) (hne _ (by omega)).1 (hne _ (by omega)).2).trans h.hres
  · exact (hg.block g (hne _ (by omega)).1 (hne _ (by omega)).2).trans h.hrow
  · exact h.below.grown hg (by have := h.sz; omega) (fun k hk => by have := hr k hk; omega)
theorem St.setRes {B g c : Nat} {cur : Array Value} {w0 : World} {l : List Int} {cp : Bool} {vr : Value} {w : World} (h : St B g c cur w0 l cp vr w) (hgB : g < B) (u : Value) : St B g c cur w0 l cp u (w.setCell ⟨B + 1 + 1, 0, none⟩ u) :=
  ⟨by simpa using h.sz, (Below.heap_setCell _ _ _ _ (by show B ≠ B + 1 + 1; omega)).trans h.hmt, (Below.heap_setCell _ _ _ _ (by show B + 1 ≠ B + 1 + 1; omega)).trans h.hcp, one_setCell h.hres,
    (Below.heap_setCell _ _ _ _ (by show g ≠ B + 1 + 1; omega)).trans h.hrow, h.below.setCell (by show B ≤ B + 1 + 1; omega) _⟩
theorem St.setCp {B g c : Nat} {cur : Array Value} {w0 : World} {l : List Int} {cp : Bool} {vr : Value} {w : World} (h : St B g c cur w0 l cp vr w) (hgB : g < B) (u : Bool) : St B g c cur w0 l u vr (w.setCell ⟨B + 1, 0, none⟩ (.bool u)) :=
  ⟨by simpa using h.sz, (Below.heap_setCell _ _ _ _ (by show B ≠ B + 1; omega)).trans h.hmt, one_setCell h.hcp, (Below.heap_setCell _ _ _ _ (by show B + 1 + 1 ≠ B + 1; omega)).trans h.hres,
    (Below.heap_setCell _ _ _ _ (by show g ≠ B + 1; omega)).trans h.hrow, h.below.setCell (by show B ≤ B + 1; omega) _⟩
theorem St.drew {B g c : Nat} {cur : Array Value} {w0 : World} {l : List Int} {cp : Bool} {vr : Value} {w : World} (h : St B g c cur w0 l cp vr w) : St B g c cur w0 l cp vr w.drew :=
  ⟨h.sz, h.hmt, h.hcp, h.hres, h.hrow, below_drew h.below⟩
theorem nums_cells {w : World} {g n : Nat} {cur : Array Value} {T : TypeId} {l : List Int} (hrow : w.heap[g]? = some (.cells cur T (0, 0))) (hcur : cur.toList.take n = nums .u8 l) (off : Nat) :
    ∀ j u, ((nums .u8 l).drop off)[j]? = some u → w.cell? ((⟨g, off, none⟩ : Addr).add j) = some u := by
  intro j u hu
  rw [Addr.add_lit, cell_of_row _ g _ _ _ _ hrow, ← Array.getElem?_toList]
  rw [List.getElem?_drop, ← hcur, List.getElem?_take] at hu
  split at hu
  · exact hu
  · simp at hu
set_option maxHeartbeats 8000000 in
set_option maxRecDepth 100000 in
theorem copy_walk (B g c i : Nat) (cur : Array Value) (w0 : World) (l : List Int) (cp : Bool) (vr : Value) (w : World) (h : St B g c cur w0 l cp vr w) (hg : g < B) (hc : l.length ≤ c) (hl : l.length ≤ 2147483647)
    (hcur : cur.toList.take l.length = nums .u8 l) (hi : i ≤ l.length) :
    Calls Tryd.prog 68 #[.int .i64 (i : Int), .pointer (some ⟨B + 1, 0, none⟩), .pointer (some ⟨B, 0, none⟩), .pointer (some ⟨B + 1 + 1, 0, none⟩)] w fun e w' =>
      e = .returned (.tuple #[]) ∧ ∃ v', St B g c cur w0 l true v' w' ∧ w'.ownsRow (B + 3) 5 1 v' i (nums .u8 (l.take i)) := by
  have cM := cell_of_one h.hmt
  have cC := cell_of_one h.hcp
  have fC := free_of_one h.hcp
  have cR := cell_of_one h.hres
  have fR := free_of_one h.hres
  go_enter Tryd.func68, Tryd.ntmps68
  have hs1 := h.setCp hg true
  obtain ⟨i0, hi0, hz0, hz1, hz2⟩ := info_parts uinfo
  have hw10 : wrap64 ((l.length : Int) + 10) = ((l.length + 10 : Nat) : Int) := by unfold wrap64; omega
  generalize hW : w.setCell ⟨B + 1, 0, none⟩ (.bool true) = w1 at hs1
  have cM1 := cell_of_one hs1.hmt
  have cR1 := cell_of_one hs1.hres
  have fR1 := free_of_one hs1.hres
  go_wp2_with (first | (at_make; refine wpList_make_own _ rfl _ _ 22 rfl (B + 3) 5 i0 (.int .u8 0) 1 Tryd.underlying22 hi0 hz0 hz1 .i64 .i64 _ (l.length + 10) rfl rfl (by first | exact hw10 | omega) (by rw [hz2]; omega) (by unfold maxLen; omega) hs1.sz ?_))
  intro w2 hown2 hgr2
  have hs2 := (hs1.grown hgr2 (by simp) hg).setRes hg (.slice (some ⟨w1.heap.size, 0, none⟩) 0 (l.length + 10))
  have hown3 : (w2.setCell ⟨B + 1 + 1, 0, none⟩ (.slice (some ⟨w1.heap.size, 0, none⟩) 0 (l.length + 10))).ownsRow (B + 3) 5 1 (.slice (some ⟨w1.heap.size, 0, none⟩) 0 (l.length + 10)) 0 [] := ownsRow_setCell_below hown2 (by show B + 1 + 1 < B + 3; omega) _
  have hs2' := hs1.grown hgr2 (by simp) hg
  have cR2 := cell_of_one hs2'.hres
  have fR2 := free_of_one hs2'.hres
  generalize hW2 : w2.setCell ⟨B + 1 + 1, 0, none⟩ (.slice (some ⟨w1.heap.size, 0, none⟩) 0 (l.length + 10)) = w3 at hs2 hown3
  have cM3 := cell_of_one hs2.hmt
  have cR3 := cell_of_one hs2.hres
  have fR3 := free_of_one hs2.hres
  by_cases hi0' : i = 0
  · subst hi0'
    go_wp2_with fail
    go_end0
    exact ⟨rfl, _, hs2, by simpa [nums] using hown3⟩
  · have hpos := eq_true (show (0 : Int) < (i : Int) by omega)
    have hic := eq_true (show i ≤ c by omega)
    have hiC := eq_true (show (i : Int) ≤ (c : Int) by omega)
    have hi00 := eq_true (show (0 : Int) ≤ (i : Int) by omega)
    have hgt : decide ((i : Int) > 0) = true := decide_eq_true (by omega)
    go_wp2_with fail
    go_still_tail 4, (by kernel_rfl)
    change wpList _ _ _ _ _ w3.drew
    have cMd : w3.drew.cell? ⟨B, 0, none⟩ = _ := cM3
    have hnl : (nums .u8 (l.take i)).length = i * 1 := by simp [nums]; omega
    have hnews : ∀ j u, (nums .u8 (l.take i))[j]? = some u → w3.drew.cell? ((⟨g, 0, none⟩ : Addr).add j) = some u := fun j u hu => by
      refine nums_cells (w := w3.drew) (n := l.length) (l := l) hs2.hrow hcur 0 j u ?_
      rw [nums, List.map_take, List.getElem?_take] at hu
      split at hu
      · simpa [nums] using hu
      · simp at hu
    have hone : ∀ u ∈ nums .u8 (l.take i), u.oneCell' = true := fun u hu => by
      obtain ⟨x, _, rfl⟩ := List.mem_map.1 hu
      rfl
    go_wp2_with (first | (at_builtin; refine wpList_append_own _ rfl _ _ 22 rfl (B + 3) 5 i0 (.int .u8 0) 1 1 Tryd.underlying22 hi0 hz0 hz1 hz2 rfl (by decide) _ 0 [] rfl hown3.drew ⟨g, 0, none⟩ i c (nums .u8 (l.take i)) rfl hnl hnews hone (by unfold maxLen; omega) (by omega) hs2.sz ?_))
    intro v' w4 hown4 hgr4 _
    have hr4 : ∀ k, (Value.slice (some ⟨w1.heap.size, 0, none⟩) 0 (l.length + 10)).ownBlock = some k → B + 3 ≤ k := fun k hk => (hown3.lt k hk).1
    have hs4 := hs2.drew.grown hgr4 hr4 hg
    obtain ⟨g4, cap4, rfl, _⟩ := hown4.form (by omega)
    have cR4 := cell_of_one hs4.hres
    have fR4 := free_of_one hs4.hres
    have hown5 := ownsRow_setCell_below hown4 (a := ⟨B + 1 + 1, 0, none⟩) (by show B + 1 + 1 < B + 3; omega) (.slice (some ⟨g4, 0, none⟩) i cap4)
    have hs5 := hs4.setRes hg (.slice (some ⟨g4, 0, none⟩) i cap4)
    go_wp2_with fail
    go_end0
    exact ⟨rfl, _, hs5, hown5⟩

theorem St.alloc {B g c : Nat} {cur : Array Value} {w0 : World} {l : List Int} {cp : Bool} {vr : Value} {w : World} (h : St B g c cur w0 l cp vr w) (hgB : g < B) (o : Obj) : St B g c cur w0 l cp vr (w.alloc o) := by
  have := h.sz
  refine ⟨?_, ?_, ?_, ?_, ?_, h.below.alloc (by omega) _⟩
  · show B + 3 ≤ (w.heap.push o).size
    rw [Array.size_push]; omega
  · rw [Below.heap_alloc _ _ _ (by omega)]; exact h.hmt
  · rw [Below.heap_alloc _ _ _ (by omega)]; exact h.hcp
  · rw [Below.heap_alloc _ _ _ (by omega)]; exact h.hres
  · rw [Below.heap_alloc _ _ _ (by omega)]; exact h.hrow
theorem size_alloc (w : World) (o : Obj) : (w.alloc o).heap.size = w.heap.size + 1 := Array.size_push ..
theorem St.start (B g c : Nat) (cur : Array Value) (w : World) (l : List Int) (hB : B = w.heap.size) (hg : g < B) (hrow : w.heap[g]? = some (.cells cur 5 (0, 0))) :
    St B g c cur w l false (.slice (some ⟨g, 0, none⟩) l.length c) (((w.alloc (Obj.cells #[Value.slice (some ⟨g, 0, none⟩) l.length c] 22)).alloc (Obj.cells #[Value.bool false] 4)).alloc (Obj.cells #[Value.slice (some ⟨g, 0, none⟩) l.length c] 22)) := by
  subst hB
  generalize h1 : w.alloc (Obj.cells #[Value.slice (some ⟨g, 0, none⟩) l.length c] 22) = w1
  have z1 : w1.heap.size = w.heap.size + 1 := by rw [← h1]; exact size_alloc _ _
  have n1 : w1.heap[w.heap.size]? = some (Obj.cells #[Value.slice (some ⟨g, 0, none⟩) l.length c] 22 (0, 0)) := by rw [← h1]; exact heap_alloc_new w _
  have r1 : w1.heap[g]? = some (.cells cur 5 (0, 0)) := by rw [← h1, Below.heap_alloc _ _ _ hg]; exact hrow
  have b1 : Below w.heap.size w w1 := by rw [← h1]; exact below_alloc (Below.refl _ _) _
  generalize h2 : w1.alloc (Obj.cells #[Value.bool false] 4) = w2
  have z2 : w2.heap.size = w.heap.size + 1 + 1 := by rw [← h2, size_alloc, z1]
  have n2 : w2.heap[w.heap.size]? = some (Obj.cells #[Value.slice (some ⟨g, 0, none⟩) l.length c] 22 (0, 0)) := by rw [← h2, Below.heap_alloc _ _ _ (by omega)]; exact n1
  have m2 : w2.heap[w.heap.size + 1]? = some (Obj.cells #[Value.bool false] 4 (0, 0)) := by rw [← h2, ← z1]; exact heap_alloc_new w1 _
  have r2 : w2.heap[g]? = some (.cells cur 5 (0, 0)) := by rw [← h2, Below.heap_alloc _ _ _ (by omega)]; exact r1
  have b2 : Below w.heap.size w w2 := by rw [← h2]; exact below_alloc b1 _
  refine ⟨?_, ?_, ?_, ?_, ?_, ?_⟩
  · rw [size_alloc, z2]; omega
  · rw [Below.heap_alloc _ _ _ (by omega)]; exact n2
  · rw [Below.heap_alloc _ _ _ (by omega)]; exact m2
  · rw [← z2]; exact heap_alloc_new w2 _
  · rw [Below.heap_alloc _ _ _ (by omega)]; exact r2
  · exact below_alloc b2 _
def convI (wc : Bool) : List Int → List Int → Option (List Int)
  | out, [] => some (if out.getLast? = some 46 then out ++ [47] else out)
  | out, c :: l =>
    if c = 47 then
      (if out = [] ∨ out.getLast? = some 46 then convI wc (out ++ [47, 46]) l
       else if l = [] ∨ l.head? = some 47 then convI wc (out ++ [46, 47]) l
       else convI wc (out ++ [46]) l)
    else if c = 32 ∨ c = 9 ∨ c = 10 ∨ c = 13 ∨ c = 12 ∨ c = 127 then none
    else if c = 46 then convI wc (out ++ [47, 47]) l
    else if c = 43 ∨ c = 35 then (if wc then convI wc (out ++ [if c = 43 then 42 else 62]) l else none)
    else convI wc (out ++ [c]) l
structure RelC (B g c : Nat) (cur : Array Value) (w0 : World) (l r : List Int) (wc : Bool) (k : Nat) (out : List Int) (cp : Bool) (vr : Value) (w : World) : Prop where
  st : St B g c cur w0 l cp vr w
  conv : convI wc out (l.drop k) = some r
  off : cp = false → out = l.take k ∧ vr = .slice (some ⟨g, 0, none⟩) l.length c ∧ (46 : Int) ∉ out
  on : cp = true → w.ownsRow (B + 3) 5 1 vr out.length (nums .u8 out) ∧ out ≠ []
  len : out.length ≤ 2 * k
  zero : k = 0 → out = []
  pos : 0 < k → out ≠ []
theorem own_last {w : World} {base e g cap : Nat} {out : List Int} (h : w.ownsRow base e 1 (.slice (some ⟨g, 0, none⟩) out.length cap) out.length (nums .u8 out)) {y : Int} (hy : out.getLast? = some y) :
    w.cell? ⟨g, out.length - 1, none⟩ = some (.int .u8 y) := by
  have hn : out ≠ [] := by intro e; rw [e] at hy; simp at hy
  have hp : 0 < out.length := List.length_pos_iff.2 hn
  rw [h.cellAt _ (by omega)]
  rw [List.getLast?_eq_getElem?] at hy
  simp [nums, hy]
theorem a_c3 {n k L m : Nat} (h : n ≤ 2 * k) (hk : k < L) (hL : L ≤ 536870911) (hm : m ≤ 2) : n + m ≤ maxLen := by unfold maxLen; omega
theorem a_c4 {n k L m : Nat} (h : n ≤ 2 * k) (hk : k < L) (hL : L ≤ 536870911) (hm : m ≤ 2) : (n + m) * 1 ≤ 140737488355328 := by omega
theorem a_j1 {n k L : Nat} (h : n ≤ 2 * k) (hk : k < L) (hL : L ≤ 536870911) : wrap64 ((n : Int) + 1) = ((n + 1 : Nat) : Int) := by unfold wrap64; omega
theorem a_j2 {n k L : Nat} (h : n ≤ 2 * k) (hk : k < L) (hL : L ≤ 536870911) : wrap64 (((n + 1 : Nat) : Int) + 1) = ((n + 2 : Nat) : Int) := by unfold wrap64; omega
theorem a_j3 {n k L : Nat} (h : n ≤ 2 * k) (hk : k < L) (hL : L ≤ 536870911) : wrap64 ((n : Int) + 1 + 1) = ((n + 2 : Nat) : Int) := by unfold wrap64; omega
theorem a_e1 {n k L : Nat} (h : n ≤ 2 * k) (hk : k ≤ L) (hL : L ≤ 536870911) : wrap64 ((n : Int) + 1) = ((n + 1 : Nat) : Int) := by unfold wrap64; omega
theorem a_e3 {n k L m : Nat} (h : n ≤ 2 * k) (hk : k ≤ L) (hL : L ≤ 536870911) (hm : m ≤ 2) : n + m ≤ maxLen := by unfold maxLen; omega
theorem a_e4 {n k L m : Nat} (h : n ≤ 2 * k) (hk : k ≤ L) (hL : L ≤ 536870911) (hm : m ≤ 2) : (n + m) * 1 ≤ 140737488355328 := by omega
theorem a_k1 {k L : Nat} (hk : k < L) (hL : L ≤ 536870911) : wrap64 ((k : Int) + 1) = ((k + 1 : Nat) : Int) := by unfold wrap64; omega
theorem a_m1 {n k L : Nat} (h : n ≤ 2 * k) (hk : k ≤ L) (hL : L ≤ 536870911) (hp : 0 < n) : wrap64 ((n : Int) - 1) = ((n - 1 : Nat) : Int) := by unfold wrap64; omega
theorem e_j (out p : List Int) : ((out.length + p.length : Nat) : Int) = (((out ++ p).length : Nat) : Int) := by simp
theorem last_of {out : List Int} (h : out ≠ []) : ∃ y, out.getLast? = some y := by
  cases hh : out.getLast? with
  | none => exact absurd (List.getLast?_eq_none_iff.1 hh) h
  | some y => exact ⟨y, rfl⟩
theorem arg_last {w : World} {g k q : Nat} {cur : Array Value} {T : TypeId} {l out : List Int} {y : Int} (hrow : w.heap[g]? = some (.cells cur T (0, 0))) (hcur : cur.toList.take l.length = nums .u8 l)
    (eo : out = l.take k) (hk : k ≤ l.length) (hy : out.getLast? = some y) (hq : q = out.length - 1) : w.cell? ⟨g, q, none⟩ = some (.int .u8 y) := by
  have hp : 0 < out.length := List.length_pos_iff.2 (by intro e; rw [e] at hy; simp at hy)
  have hlen : out.length = k := by rw [eo]; simp; omega
  have := nums_cells (w := w) (n := l.length) (l := l) hrow hcur q 0 (.int .u8 y) (by
    rw [List.getLast?_eq_getElem?, eo, List.getElem?_take] at hy
    rw [List.getElem?_drop, nums, List.getElem?_map]
    have e : q + 0 = (List.take k l).length - 1 := by rw [hq, eo]; rfl
    rw [e]
    split at hy
    · rw [hy]; rfl
    · simp at hy)
  simpa [Addr.add] using this
theorem arg_drop {w : World} {g k : Nat} {cur : Array Value} {T : TypeId} {l m : List Int} {x : Int} (hrow : w.heap[g]? = some (.cells cur T (0, 0))) (hcur : cur.toList.take l.length = nums .u8 l)
    (hd : l.drop k = x :: m) : w.cell? ⟨g, k, none⟩ = some (.int .u8 x) := by
  have h1 : l[k]? = some x := by rw [← List.head?_drop, hd]; rfl
  have := nums_cells (w := w) (n := l.length) (l := l) hrow hcur k 0 (.int .u8 x) (by rw [List.getElem?_drop]; simp [nums, h1])
  simpa [Addr.add] using this
theorem news1 (w : World) (T : TypeId) (x : Int) : ∀ j u, [Value.int .u8 x][j]? = some u → (w.alloc (Obj.cells #[Value.int .u8 x] T)).drew.cell? ((⟨w.heap.size, 0, none⟩ : Addr).add j) = some u := by
  intro j u hj
  match j, hj with
  | 0, hj => simp at hj; subst hj; exact cell_of_one (heap_alloc_new w _)
theorem one1 (x : Int) : ∀ u ∈ [Value.int .u8 x], u.oneCell' = true := by
  intro u hu
  simp at hu
  subst hu
  rfl
theorem arg_at {w : World} {g k : Nat} {cur : Array Value} {T : TypeId} {l : List Int} {z : Int} (hrow : w.heap[g]? = some (.cells cur T (0, 0))) (hcur : cur.toList.take l.length = nums .u8 l)
    (hk : k < l.length) (hz : z = l[k]) : w.cell? ⟨g, k, none⟩ = some (.int .u8 z) := by
  have := nums_cells (w := w) (n := l.length) (l := l) hrow hcur k 0 (.int .u8 z) (by rw [List.getElem?_drop]; simp [nums, hk, hz])
  simpa [Addr.add] using this
theorem RelC.next {B g c : Nat} {cur : Array Value} {w0 : World} {l r out p : List Int} {wc : Bool} {k : Nat} {v : Value} {w : World} (hst : St B g c cur w0 l true v w) (ho : w.ownsRow (B + 3) 5 1 v (out.length + p.length) (nums .u8 out ++ nums .u8 p))
    (hconv : convI wc (out ++ p) (l.drop (k + 1)) = some r) (hp : p ≠ []) (hp2 : p.length ≤ 2) (hlen : out.length ≤ 2 * k) : RelC B g c cur w0 l r wc (k + 1) (out ++ p) true v w :=
  ⟨hst, hconv, fun h => by simp at h, fun _ => ⟨by rw [List.length_append, show nums .u8 (out ++ p) = nums .u8 out ++ nums .u8 p from List.map_append]; exact ho, by simp [hp]⟩, by rw [List.length_append]; omega, fun h => by omega, fun _ => by simp [hp]⟩
theorem own_cap {w : World} {base e g cap n : Nat} {xs : List Value} (h : w.ownsRow base e 1 (.slice (some ⟨g, 0, none⟩) n cap) n xs) : n ≤ cap := by
  rcases h.2 with ⟨hv, _⟩ | ⟨_, _, _, hv, _, _, hc, _⟩
  · simp at hv
  · injection hv with _ _ h3
    subst h3
    exact hc
theorem RelC.keep {B g c : Nat} {cur : Array Value} {w0 : World} {l r out : List Int} {wc : Bool} {k : Nat} {x : Int} {vr : Value} {w : World} (h : RelC B g c cur w0 l r wc k out false vr w) (hk : k < l.length) (hx : l.drop k = x :: l.drop (k + 1)) (h46 : x ≠ 46)
    (hconv : convI wc (out ++ [x]) (l.drop (k + 1)) = some r) : RelC B g c cur w0 l r wc (k + 1) (out ++ [x]) false vr w := by
  obtain ⟨h1, h2, h3⟩ := h.off rfl
  refine ⟨h.st, hconv, fun _ => ⟨?_, h2, ?_⟩, fun h => by simp at h, ?_, fun h => by omega, fun _ => by simp⟩
  · rw [h1, List.take_add_one]
    congr 1
    have : l[k]? = some x := by rw [← List.head?_drop, hx]; rfl
    rw [this]; rfl
  · intro hm
    rcases List.mem_append.1 hm with hm | hm
    · exact h3 hm
    · exact h46 (List.mem_singleton.1 hm).symm
  · have := h.len
    simp; omega
theorem mkfunc : ∀ (fn : Fn) (first cap : Array Value) (w : World), (Instr.makeFunc fn first cap).run Tryd.prog w = .ok (.func fn first cap) w := fun _ _ _ _ => rfl
set_option maxHeartbeats 8000000 in
set_option maxRecDepth 100000 in
theorem conv_walk (B0 : Nat) (v : Value) (l r : List Int) (wc : Bool) (w : World) (h0 : w.ownsRow B0 5 1 v l.length (nums .u8 l)) (hne : l ≠ []) (hl : l.length ≤ 536870911) (hr : convI wc [] l = some r) :
    Calls Tryd.prog 62 #[v, .bool wc] w fun e w' => ∃ v', e = .returned (.tuple #[v', .nilIface]) ∧ w'.ownsRow B0 5 1 v' r.length (nums .u8 r) ∧ Below w.heap.size w w' := by
  have hpos : 0 < l.length := List.length_pos_iff.2 hne
  rcases h0.2 with ⟨_, h⟩ | ⟨g, c, cur, rfl, hgB, hrow, hnc, hcm, hsz, htk⟩
  · omega
  rw [Nat.mul_one] at htk hsz
  obtain ⟨B, hB⟩ : ∃ B, B = w.heap.size := ⟨_, rfl⟩
  have hg : g < B := by rw [hB]; exact (Array.getElem?_eq_some_iff.1 hrow).1
  have hmf := mkfunc
  have HB := Aside0.mk hB
  have HR := Aside0.mk hr
  have H0 := Aside0.mk h0
  have HROW := Aside0.mk hrow
  have HSZ := Aside0.mk hsz
  have HT := Aside0.mk htk
  have HNE := Aside0.mk hne
  have HG := Aside0.mk hg
  have HGB := Aside0.mk hgB
  clear hB hr h0 hrow hsz htk hne hg hgB
  obtain ⟨E, hE⟩ : ∃ E, E = l.length - 1 := ⟨_, rfl⟩
  have hwe : wrap64 ((l.length : Int) - 1) = (E : Int) := by rw [hE]; unfold wrap64; omega
  have HE := Aside0.mk hE
  clear hE
  have HL := Aside0.mk hl
  have HNC := Aside0.mk hnc
  have HCM := Aside0.mk hcm
  have HPOS := Aside0.mk hpos
  clear hl hnc hcm hpos
  go_enter Tryd.func62, Tryd.ntmps62
  go_wp2_with fail
  rw [← HB.out]
  rw [hwe]
  have hst0 := St.start B g c cur w l HB.out HG.out HROW.out
  go_loopw [7, 11] (fun v7 v11 wr => ∃ (k : Nat) (out : List Int) (cp : Bool) (vr : Value), k ≤ l.length ∧ v7 = .int .i64 (out.length : Int) ∧ v11 = .int .i64 (k : Int) ∧ Aside0 (RelC B g c cur w l r wc k out cp vr wr)) (fun _ v11 _ => Road.leftOf l.length v11)
  case atStart =>
    refine ⟨0, [], false, _, by omega, rfl, rfl, ⟨hst0, by simpa using HR.out, fun _ => ⟨by simp, rfl, by simp⟩, fun h => by simp at h, by simp, fun _ => rfl, fun h => by omega⟩⟩
  case round =>
    clear hst0
    obtain ⟨k, out, cp, vr, hk, rfl, rfl, HREL⟩ := hrel
    by_cases hlt : k < l.length
    · obtain ⟨x, hx⟩ : ∃ x, x = l[k] := ⟨_, rfl⟩
      have HLT := Aside0.mk hlt
      have HK := Aside0.mk hk
      have hbyte : wr.cell? ⟨g, k, none⟩ = some (.int .u8 x) := by
        have := nums_cells (w := wr) (n := l.length) (l := l) HREL.out.st.hrow HT.out k 0 (.int .u8 x) (by rw [List.getElem?_drop]; simp [nums, hlt, hx])
        simpa [Addr.add] using this
      have cM := cell_of_one HREL.out.st.hmt
      have cC := cell_of_one HREL.out.st.hcp
      have fC := free_of_one HREL.out.st.hcp
      have cR := cell_of_one HREL.out.st.hres
      have fR := free_of_one HREL.out.st.hres
      have ck := eq_true (show (k : Int) < (l.length : Int) by omega)
      have ck' := eq_true hlt
      have ck0 := eq_true (show (0 : Int) ≤ (k : Int) by omega)
      have hd : l.drop k = x :: l.drop (k + 1) := by rw [hx]; exact List.drop_eq_getElem_cons hlt
      have HD0 := Aside0.mk hd
      have hcv := HREL.out.conv
      rw [hd, convI] at hcv
      clear hx hd hlt hk
      obtain ⟨i0, hi0, hz0, hz1, hz2⟩ := info_parts uinfo
      by_cases hx47 : x = 47
      · rw [if_pos hx47] at hcv
        subst hx47
        by_cases hk0 : k = 0
        · have hkz1 : ((k : Int) == 0) = true := by simp [hk0]
          have eout := HREL.out.zero hk0
          have HK0 := Aside0.mk hk0
          clear hk0
          rw [if_pos (.inl eout)] at hcv
          have HCV := Aside0.mk hcv
          clear hcv
          have HEO := Aside0.mk eout
          clear eout
          cases cp
          rotate_left
          · exact absurd HEO.out (HREL.out.on rfl).2
          · go_wp2_with fail
            refine (copy_walk B g c 0 cur w l false _ wr HREL.out.st HG.out HNC.out (Nat.le_trans HL.out (by decide)) HT.out (Nat.zero_le _)).mono ?_
            rintro e w1 ⟨rfl, v1, hs1, ho1⟩
            have hk0 := HK0.out
            have eo := (HREL.out.off rfl).1
            have elen : out.length = k := by have := HK.out; rw [eo]; simp; omega
            rw [← hk0, ← eo, ← elen] at ho1; clear hk0
            clear elen eo
            have cM1 := cell_of_one hs1.hmt
            have cC1 := cell_of_one hs1.hcp
            have cR1 := cell_of_one hs1.hres
            have fR1 := free_of_one hs1.hres
            go_wp2_with (first | (at_builtin; refine wpList_append_own _ rfl _ _ 22 rfl (B + 3) 5 i0 (.int .u8 0) 1 1 Tryd.underlying22 hi0 hz0 hz1 hz2 rfl (by decide) _ out.length (nums .u8 out) rfl (ho1.alloc _) ⟨w1.heap.size, 0, none⟩ 2 2 [.int .u8 47, .int .u8 46] rfl rfl ?c1 ?c2 ?c3 ?c4 ?c5 ?_))
            case c1 =>
              intro j u hj
              match j, hj with
              | 0, hj => simp at hj; subst hj; simp [Addr.add]
              | 1, hj => simp at hj; subst hj; simp [Addr.add]
            case c2 => intro u hu; simp at hu; rcases hu with rfl | rfl <;> rfl
            case c3 => exact a_c3 HREL.out.len HLT.out HL.out (by decide)
            case c4 => exact a_c4 HREL.out.len HLT.out HL.out (by decide)
            case c5 => exact (hs1.alloc HG.out _).sz
            intro v2 w2 ho2 hg2 _
            have hr2 : ∀ k, v1.ownBlock = some k → B + 3 ≤ k := fun k hk => (ho1.lt k hk).1
            have hs2 := (hs1.alloc HG.out _).grown hg2 hr2 HG.out
            obtain ⟨g2, cap2, rfl, _⟩ := ho2.form (by omega)
            have cM2 := cell_of_one hs2.hmt
            have cC2 := cell_of_one hs2.hcp
            have cR2 := cell_of_one hs2.hres
            have fR2 := free_of_one hs2.hres
            have ho3 := ownsRow_setCell_below ho2 (a := ⟨B + 1 + 1, 0, none⟩) (by show B + 1 + 1 < B + 3; omega) (.slice (some ⟨g2, 0, none⟩) (out.length + 2) cap2)
            have hs3 := hs2.setRes HG.out (.slice (some ⟨g2, 0, none⟩) (out.length + 2) cap2)
            have HS3 := Aside0.mk hs3
            have HO3 := Aside0.mk ho3
            clear hs3 ho3 hs2 ho2 hg2 hr2
            go_wp2_with fail
            go_roundw
            case rel => exact ⟨k + 1, out ++ [47, 46], true, _, HLT.out, by (first | rw [a_j1 HREL.out.len HLT.out HL.out, a_j2 HREL.out.len HLT.out HL.out] | rw [a_j3 HREL.out.len HLT.out HL.out] | rw [a_j1 HREL.out.len HLT.out HL.out]); exact congrArg _ (e_j out [47, 46]), by first | rfl | exact congrArg _ (a_k1 HLT.out HL.out), ⟨RelC.next HS3.out HO3.out HCV.out (by simp) (by simp) HREL.out.len⟩⟩
            case measure => rw [a_k1 HLT.out HL.out]; exact Road.leftOf_lt HLT.out
        · have hkz1 : ((k : Int) == 0) = false := beq_eq_false_iff_ne.mpr (by omega)
          have hkp : 0 < k := Nat.pos_of_ne_zero hk0
          have hne := HREL.out.pos hkp
          obtain ⟨y, hy⟩ := last_of hne
          obtain ⟨q, hq⟩ : ∃ q, q = out.length - 1 := ⟨_, rfl⟩
          have hop : 0 < out.length := List.length_pos_iff.2 hne
          have hq1 : wrap64 ((out.length : Int) - 1) = (q : Int) := by rw [hq]; exact a_m1 HREL.out.len HK.out HL.out hop
          have HNO := Aside0.mk hne
          have HY := Aside0.mk hy
          have HQ := Aside0.mk hq
          have HOP := Aside0.mk hop
          have HKP := Aside0.mk hkp
          have q0 := eq_true (show (0 : Int) ≤ (q : Int) by omega)
          clear hne hy hq hop hk0 hkp
          by_cases hy46 : y = 46
          · have hcy46 : (y == (46 : Int)) = true := by simp [hy46]
            rw [if_pos (.inr (by rw [HY.out, hy46]))] at hcv
            have HCV := Aside0.mk hcv
            clear hcv
            have HY46 := Aside0.mk hy46
            clear hy46
            cases cp
            · exact absurd (List.mem_of_getLast? (HY46.out ▸ HY.out)) (HREL.out.off rfl).2.2
            · obtain ⟨g1, cap1, rfl, _⟩ := (HREL.out.on rfl).1.form HOP.out
              have hcy : wr.cell? ⟨g1, q, none⟩ = some (.int .u8 y) := by rw [HQ.out]; exact own_last (HREL.out.on rfl).1 HY.out
              have ql := eq_true (show q < out.length by have := HQ.out; have := HOP.out; omega)
              have qL := eq_true (show (q : Int) < (out.length : Int) by have := HQ.out; have := HOP.out; omega)
              have hs1 := HREL.out.st
              have ho1 := (HREL.out.on rfl).1
              go_wp2_with (first | (at_builtin; refine wpList_append_own _ rfl _ _ 22 rfl (B + 3) 5 i0 (.int .u8 0) 1 1 Tryd.underlying22 hi0 hz0 hz1 hz2 rfl (by decide) _ out.length (nums .u8 out) rfl (ho1.alloc _) ⟨wr.heap.size, 0, none⟩ 2 2 [.int .u8 47, .int .u8 46] rfl rfl ?c1 ?c2 ?c3 ?c4 ?c5 ?_))
              case c1 =>
                intro j u hj
                match j, hj with
                | 0, hj => simp at hj; subst hj; simp [Addr.add]
                | 1, hj => simp at hj; subst hj; simp [Addr.add]
              case c2 => intro u hu; simp at hu; rcases hu with rfl | rfl <;> rfl
              case c3 => exact a_c3 HREL.out.len HLT.out HL.out (by decide)
              case c4 => exact a_c4 HREL.out.len HLT.out HL.out (by decide)
              case c5 => exact (hs1.alloc HG.out _).sz
              intro v2 w2 ho2 hg2 _
              have hr2 : ∀ k, (Value.slice (some ⟨g1, 0, none⟩) out.length cap1).ownBlock = some k → B + 3 ≤ k := fun k hk => (ho1.lt k hk).1
              have hs2 := (hs1.alloc HG.out _).grown hg2 hr2 HG.out
              obtain ⟨g2, cap2, rfl, _⟩ := ho2.form (by omega)
              have cM2 := cell_of_one hs2.hmt
              have cC2 := cell_of_one hs2.hcp
              have cR2 := cell_of_one hs2.hres
              have fR2 := free_of_one hs2.hres
              have ho3 := ownsRow_setCell_below ho2 (a := ⟨B + 1 + 1, 0, none⟩) (by show B + 1 + 1 < B + 3; omega) (.slice (some ⟨g2, 0, none⟩) (out.length + 2) cap2)
              have hs3 := hs2.setRes HG.out (.slice (some ⟨g2, 0, none⟩) (out.length + 2) cap2)
              have HS3 := Aside0.mk hs3
              have HO3 := Aside0.mk ho3
              clear hs3 ho3 hs2 ho2 hg2 hr2
              go_wp2_with fail
              go_roundw
              case rel => exact ⟨k + 1, out ++ [47, 46], true, _, HLT.out, by (first | rw [a_j1 HREL.out.len HLT.out HL.out, a_j2 HREL.out.len HLT.out HL.out] | rw [a_j3 HREL.out.len HLT.out HL.out] | rw [a_j1 HREL.out.len HLT.out HL.out]); exact congrArg _ (e_j out [47, 46]), by first | rfl | exact congrArg _ (a_k1 HLT.out HL.out), ⟨RelC.next HS3.out HO3.out HCV.out (by simp) (by simp) HREL.out.len⟩⟩
              case measure => rw [a_k1 HLT.out HL.out]; exact Road.leftOf_lt HLT.out
          · have hcy46 : (y == (46 : Int)) = false := beq_eq_false_iff_ne.mpr hy46
            have hnl : ¬ (out = [] ∨ out.getLast? = some 46) := by rw [HY.out]; intro h; rcases h with h | h; exact HNO.out h; exact hy46 (Option.some.inj h)
            rw [if_neg hnl] at hcv
            clear hnl
            by_cases hke : k = E
            · have hke1 : ((k : Int) == (E : Int)) = true := by simp [hke]
              rw [if_pos (.inl (by rw [List.drop_eq_nil_iff]; have := HE.out; omega))] at hcv
              have HCV := Aside0.mk hcv
              clear hcv
              have HKE := Aside0.mk hke
              clear hke
              cases cp
              · obtain ⟨eo, rfl, hno⟩ := HREL.out.off rfl
                have hcy : wr.cell? ⟨g, q, none⟩ = some (.int .u8 y) := arg_last HREL.out.st.hrow HT.out eo HK.out HY.out HQ.out
                have elen : out.length = k := by have := HK.out; rw [eo]; simp; omega
                have ql := eq_true (show q < l.length by have := HQ.out; have := HK.out; have := HLT.out; have := HOP.out; omega)
                have qL := eq_true (show (q : Int) < (l.length : Int) by have := HQ.out; have := HK.out; have := HLT.out; have := HOP.out; omega)
                have EO := Aside0.mk eo
                have HNO2 := Aside0.mk hno
                clear eo hno elen
                go_wp2_with fail
                refine (copy_walk B g c k cur w l false _ wr HREL.out.st HG.out HNC.out (Nat.le_trans HL.out (by decide)) HT.out (HK.out)).mono ?_
                rintro e w1 ⟨rfl, v1, hs1, ho1⟩
                have eo := (HREL.out.off rfl).1
                have elen : out.length = k := by have := HK.out; rw [eo]; simp; omega
                rw [← eo, ← elen] at ho1
                clear elen eo
                have cM1 := cell_of_one hs1.hmt
                have cC1 := cell_of_one hs1.hcp
                have cR1 := cell_of_one hs1.hres
                have fR1 := free_of_one hs1.hres
                go_wp2_with (first | (at_builtin; refine wpList_append_own _ rfl _ _ 22 rfl (B + 3) 5 i0 (.int .u8 0) 1 1 Tryd.underlying22 hi0 hz0 hz1 hz2 rfl (by decide) _ out.length (nums .u8 out) rfl (ho1.alloc _) ⟨w1.heap.size, 0, none⟩ 2 2 [.int .u8 46, .int .u8 47] rfl rfl ?c1 ?c2 ?c3 ?c4 ?c5 ?_))
                case c1 =>
                  intro j u hj
                  match j, hj with
                  | 0, hj => simp at hj; subst hj; simp [Addr.add]
                  | 1, hj => simp at hj; subst hj; simp [Addr.add]
                case c2 => intro u hu; simp at hu; rcases hu with rfl | rfl <;> rfl
                case c3 => exact a_c3 HREL.out.len HLT.out HL.out (by decide)
                case c4 => exact a_c4 HREL.out.len HLT.out HL.out (by decide)
                case c5 => exact (hs1.alloc HG.out _).sz
                intro v2 w2 ho2 hg2 _
                have hr2 : ∀ k, v1.ownBlock = some k → B + 3 ≤ k := fun k hk => (ho1.lt k hk).1
                have hs2 := (hs1.alloc HG.out _).grown hg2 hr2 HG.out
                obtain ⟨g2, cap2, rfl, _⟩ := ho2.form (by omega)
                have cM2 := cell_of_one hs2.hmt
                have cC2 := cell_of_one hs2.hcp
                have cR2 := cell_of_one hs2.hres
                have fR2 := free_of_one hs2.hres
                have ho3 := ownsRow_setCell_below ho2 (a := ⟨B + 1 + 1, 0, none⟩) (by show B + 1 + 1 < B + 3; omega) (.slice (some ⟨g2, 0, none⟩) (out.length + 2) cap2)
                have hs3 := hs2.setRes HG.out (.slice (some ⟨g2, 0, none⟩) (out.length + 2) cap2)
                have HS3 := Aside0.mk hs3
                have HO3 := Aside0.mk ho3
                clear hs3 ho3 hs2 ho2 hg2 hr2
                go_wp2_with fail
                go_roundw
                case rel => exact ⟨k + 1, out ++ [46, 47], true, _, HLT.out, by (first | rw [a_j1 HREL.out.len HLT.out HL.out, a_j2 HREL.out.len HLT.out HL.out] | rw [a_j3 HREL.out.len HLT.out HL.out] | rw [a_j1 HREL.out.len HLT.out HL.out]); exact congrArg _ (e_j out [46, 47]), by first | rfl | exact congrArg _ (a_k1 HLT.out HL.out), ⟨RelC.next HS3.out HO3.out HCV.out (by simp) (by simp) HREL.out.len⟩⟩
                case measure => rw [a_k1 HLT.out HL.out]; exact Road.leftOf_lt HLT.out
              · obtain ⟨g1, cap1, rfl, _⟩ := (HREL.out.on rfl).1.form HOP.out
                have hcy : wr.cell? ⟨g1, q, none⟩ = some (.int .u8 y) := by rw [HQ.out]; exact own_last (HREL.out.on rfl).1 HY.out
                have ql := eq_true (show q < out.length by have := HQ.out; have := HOP.out; omega)
                have qL := eq_true (show (q : Int) < (out.length : Int) by have := HQ.out; have := HOP.out; omega)
                have hs1 := HREL.out.st
                have ho1 := (HREL.out.on rfl).1
                go_wp2_with (first | (at_builtin; refine wpList_append_own _ rfl _ _ 22 rfl (B + 3) 5 i0 (.int .u8 0) 1 1 Tryd.underlying22 hi0 hz0 hz1 hz2 rfl (by decide) _ out.length (nums .u8 out) rfl (ho1.alloc _) ⟨wr.heap.size, 0, none⟩ 2 2 [.int .u8 46, .int .u8 47] rfl rfl ?c1 ?c2 ?c3 ?c4 ?c5 ?_))
                case c1 =>
                  intro j u hj
                  match j, hj with
                  | 0, hj => simp at hj; subst hj; simp [Addr.add]
                  | 1, hj => simp at hj; subst hj; simp [Addr.add]
                case c2 => intro u hu; simp at hu; rcases hu with rfl | rfl <;> rfl
                case c3 => exact a_c3 HREL.out.len HLT.out HL.out (by decide)
                case c4 => exact a_c4 HREL.out.len HLT.out HL.out (by decide)
                case c5 => exact (hs1.alloc HG.out _).sz
                intro v2 w2 ho2 hg2 _
                have hr2 : ∀ k, (Value.slice (some ⟨g1, 0, none⟩) out.length cap1).ownBlock = some k → B + 3 ≤ k := fun k hk => (ho1.lt k hk).1
                have hs2 := (hs1.alloc HG.out _).grown hg2 hr2 HG.out
                obtain ⟨g2, cap2, rfl, _⟩ := ho2.form (by omega)
                have cM2 := cell_of_one hs2.hmt
                have cC2 := cell_of_one hs2.hcp
                have cR2 := cell_of_one hs2.hres
                have fR2 := free_of_one hs2.hres
                have ho3 := ownsRow_setCell_below ho2 (a := ⟨B + 1 + 1, 0, none⟩) (by show B + 1 + 1 < B + 3; omega) (.slice (some ⟨g2, 0, none⟩) (out.length + 2) cap2)
                have hs3 := hs2.setRes HG.out (.slice (some ⟨g2, 0, none⟩) (out.length + 2) cap2)
                have HS3 := Aside0.mk hs3
                have HO3 := Aside0.mk ho3
                clear hs3 ho3 hs2 ho2 hg2 hr2
                go_wp2_with fail
                go_roundw
                case rel => exact ⟨k + 1, out ++ [46, 47], true, _, HLT.out, by (first | rw [a_j1 HREL.out.len HLT.out HL.out, a_j2 HREL.out.len HLT.out HL.out] | rw [a_j3 HREL.out.len HLT.out HL.out] | rw [a_j1 HREL.out.len HLT.out HL.out]); exact congrArg _ (e_j out [46, 47]), by first | rfl | exact congrArg _ (a_k1 HLT.out HL.out), ⟨RelC.next HS3.out HO3.out HCV.out (by simp) (by simp) HREL.out.len⟩⟩
                case measure => rw [a_k1 HLT.out HL.out]; exact Road.leftOf_lt HLT.out
            · have hke1 : ((k : Int) == (E : Int)) = false := beq_eq_false_iff_ne.mpr (by omega)
              obtain ⟨k1, hk1⟩ : ∃ k1, k1 = k + 1 := ⟨_, rfl⟩
              have hk1l : k1 < l.length := by have := HE.out; have := HLT.out; omega
              have hk1w : wrap64 ((k : Int) + 1) = (k1 : Int) := by rw [hk1]; exact a_k1 HLT.out HL.out
              obtain ⟨z, hz⟩ : ∃ z, z = l[k1] := ⟨_, rfl⟩
              have hcz : wr.cell? ⟨g, k1, none⟩ = some (.int .u8 z) := arg_at HREL.out.st.hrow HT.out hk1l hz
              have k1l := eq_true hk1l
              have k1L := eq_true (show (k1 : Int) < (l.length : Int) by omega)
              have k10 := eq_true (show (0 : Int) ≤ (k1 : Int) by omega)
              have hdz : l.drop (k + 1) = z :: l.drop (k + 1 + 1) := by subst hk1; rw [hz]; exact List.drop_eq_getElem_cons hk1l
              have HK1 := Aside0.mk hk1
              have HDZ := Aside0.mk hdz
              clear hz
              have HK1L := Aside0.mk hk1l
              clear hk1 hdz hke
              by_cases hz47 : z = 47
              · have hz1' : (z == (47 : Int)) = true := by simp [hz47]
                rw [if_pos (.inr (by rw [HDZ.out, hz47]; rfl))] at hcv
                have HCV := Aside0.mk hcv
                clear hcv
                have HZ47 := Aside0.mk hz47
                clear hz47
                cases cp
                · obtain ⟨eo, rfl, hno⟩ := HREL.out.off rfl
                  have hcy : wr.cell? ⟨g, q, none⟩ = some (.int .u8 y) := arg_last HREL.out.st.hrow HT.out eo HK.out HY.out HQ.out
                  have elen : out.length = k := by have := HK.out; rw [eo]; simp; omega
                  have ql := eq_true (show q < l.length by have := HQ.out; have := HK.out; have := HLT.out; have := HOP.out; omega)
                  have qL := eq_true (show (q : Int) < (l.length : Int) by have := HQ.out; have := HK.out; have := HLT.out; have := HOP.out; omega)
                  have EO := Aside0.mk eo
                  have HNO2 := Aside0.mk hno
                  clear eo hno elen
                  go_wp2_with fail
                  refine (copy_walk B g c k cur w l false _ wr HREL.out.st HG.out HNC.out (Nat.le_trans HL.out (by decide)) HT.out (HK.out)).mono ?_
                  rintro e w1 ⟨rfl, v1, hs1, ho1⟩
                  have eo := (HREL.out.off rfl).1
                  have elen : out.length = k := by have := HK.out; rw [eo]; simp; omega
                  rw [← eo, ← elen] at ho1
                  clear elen eo
                  have cM1 := cell_of_one hs1.hmt
                  have cC1 := cell_of_one hs1.hcp
                  have cR1 := cell_of_one hs1.hres
                  have fR1 := free_of_one hs1.hres
                  go_wp2_with (first | (at_builtin; refine wpList_append_own _ rfl _ _ 22 rfl (B + 3) 5 i0 (.int .u8 0) 1 1 Tryd.underlying22 hi0 hz0 hz1 hz2 rfl (by decide) _ out.length (nums .u8 out) rfl (ho1.alloc _) ⟨w1.heap.size, 0, none⟩ 2 2 [.int .u8 46, .int .u8 47] rfl rfl ?c1 ?c2 ?c3 ?c4 ?c5 ?_))
                  case c1 =>
                    intro j u hj
                    match j, hj with
                    | 0, hj => simp at hj; subst hj; simp [Addr.add]
                    | 1, hj => simp at hj; subst hj; simp [Addr.add]
                  case c2 => intro u hu; simp at hu; rcases hu with rfl | rfl <;> rfl
                  case c3 => exact a_c3 HREL.out.len HLT.out HL.out (by decide)
                  case c4 => exact a_c4 HREL.out.len HLT.out HL.out (by decide)
                  case c5 => exact (hs1.alloc HG.out _).sz
                  intro v2 w2 ho2 hg2 _
                  have hr2 : ∀ k, v1.ownBlock = some k → B + 3 ≤ k := fun k hk => (ho1.lt k hk).1
                  have hs2 := (hs1.alloc HG.out _).grown hg2 hr2 HG.out
                  obtain ⟨g2, cap2, rfl, _⟩ := ho2.form (by omega)
                  have cM2 := cell_of_one hs2.hmt
                  have cC2 := cell_of_one hs2.hcp
                  have cR2 := cell_of_one hs2.hres
                  have fR2 := free_of_one hs2.hres
                  have ho3 := ownsRow_setCell_below ho2 (a := ⟨B + 1 + 1, 0, none⟩) (by show B + 1 + 1 < B + 3; omega) (.slice (some ⟨g2, 0, none⟩) (out.length + 2) cap2)
                  have hs3 := hs2.setRes HG.out (.slice (some ⟨g2, 0, none⟩) (out.length + 2) cap2)
                  have HS3 := Aside0.mk hs3
                  have HO3 := Aside0.mk ho3
                  clear hs3 ho3 hs2 ho2 hg2 hr2
                  go_wp2_with fail
                  go_roundw
                  case rel => exact ⟨k + 1, out ++ [46, 47], true, _, HLT.out, by (first | rw [a_j1 HREL.out.len HLT.out HL.out, a_j2 HREL.out.len HLT.out HL.out] | rw [a_j3 HREL.out.len HLT.out HL.out] | rw [a_j1 HREL.out.len HLT.out HL.out]); exact congrArg _ (e_j out [46, 47]), by first | rfl | exact congrArg _ (a_k1 HLT.out HL.out), ⟨RelC.next HS3.out HO3.out HCV.out (by simp) (by simp) HREL.out.len⟩⟩
                  case measure => rw [a_k1 HLT.out HL.out]; exact Road.leftOf_lt HLT.out
                · obtain ⟨g1, cap1, rfl, _⟩ := (HREL.out.on rfl).1.form HOP.out
                  have hcy : wr.cell? ⟨g1, q, none⟩ = some (.int .u8 y) := by rw [HQ.out]; exact own_last (HREL.out.on rfl).1 HY.out
                  have ql := eq_true (show q < out.length by have := HQ.out; have := HOP.out; omega)
                  have qL := eq_true (show (q : Int) < (out.length : Int) by have := HQ.out; have := HOP.out; omega)
                  have hs1 := HREL.out.st
                  have ho1 := (HREL.out.on rfl).1
                  go_wp2_with (first | (at_builtin; refine wpList_append_own _ rfl _ _ 22 rfl (B + 3) 5 i0 (.int .u8 0) 1 1 Tryd.underlying22 hi0 hz0 hz1 hz2 rfl (by decide) _ out.length (nums .u8 out) rfl (ho1.alloc _) ⟨wr.heap.size, 0, none⟩ 2 2 [.int .u8 46, .int .u8 47] rfl rfl ?c1 ?c2 ?c3 ?c4 ?c5 ?_))
                  case c1 =>
                    intro j u hj
                    match j, hj with
                    | 0, hj => simp at hj; subst hj; simp [Addr.add]
                    | 1, hj => simp at hj; subst hj; simp [Addr.add]
                  case c2 => intro u hu; simp at hu; rcases hu with rfl | rfl <;> rfl
                  case c3 => exact a_c3 HREL.out.len HLT.out HL.out (by decide)
                  case c4 => exact a_c4 HREL.out.len HLT.out HL.out (by decide)
                  case c5 => exact (hs1.alloc HG.out _).sz
                  intro v2 w2 ho2 hg2 _
                  have hr2 : ∀ k, (Value.slice (some ⟨g1, 0, none⟩) out.length cap1).ownBlock = some k → B + 3 ≤ k := fun k hk => (ho1.lt k hk).1
                  have hs2 := (hs1.alloc HG.out _).grown hg2 hr2 HG.out
                  obtain ⟨g2, cap2, rfl, _⟩ := ho2.form (by omega)
                  have cM2 := cell_of_one hs2.hmt
                  have cC2 := cell_of_one hs2.hcp
                  have cR2 := cell_of_one hs2.hres
                  have fR2 := free_of_one hs2.hres
                  have ho3 := ownsRow_setCell_below ho2 (a := ⟨B + 1 + 1, 0, none⟩) (by show B + 1 + 1 < B + 3; omega) (.slice (some ⟨g2, 0, none⟩) (out.length + 2) cap2)
                  have hs3 := hs2.setRes HG.out (.slice (some ⟨g2, 0, none⟩) (out.length + 2) cap2)
                  have HS3 := Aside0.mk hs3
                  have HO3 := Aside0.mk ho3
                  clear hs3 ho3 hs2 ho2 hg2 hr2
                  go_wp2_with fail
                  go_roundw
                  case rel => exact ⟨k + 1, out ++ [46, 47], true, _, HLT.out, by (first | rw [a_j1 HREL.out.len HLT.out HL.out, a_j2 HREL.out.len HLT.out HL.out] | rw [a_j3 HREL.out.len HLT.out HL.out] | rw [a_j1 HREL.out.len HLT.out HL.out]); exact congrArg _ (e_j out [46, 47]), by first | rfl | exact congrArg _ (a_k1 HLT.out HL.out), ⟨RelC.next HS3.out HO3.out HCV.out (by simp) (by simp) HREL.out.len⟩⟩
                  case measure => rw [a_k1 HLT.out HL.out]; exact Road.leftOf_lt HLT.out
              · have hz1' : (z == (47 : Int)) = false := beq_eq_false_iff_ne.mpr hz47
                rw [if_neg (by rw [HDZ.out]; intro h; rcases h with h | h; simp at h; exact hz47 (Option.some.inj h))] at hcv
                have HCV := Aside0.mk hcv
                clear hcv
                have HZ47 := Aside0.mk hz47
                clear hz47
                cases cp
                · obtain ⟨eo, rfl, hno⟩ := HREL.out.off rfl
                  have hcy : wr.cell? ⟨g, q, none⟩ = some (.int .u8 y) := arg_last HREL.out.st.hrow HT.out eo HK.out HY.out HQ.out
                  have elen : out.length = k := by have := HK.out; rw [eo]; simp; omega
                  have ql := eq_true (show q < l.length by have := HQ.out; have := HK.out; have := HLT.out; have := HOP.out; omega)
                  have qL := eq_true (show (q : Int) < (l.length : Int) by have := HQ.out; have := HK.out; have := HLT.out; have := HOP.out; omega)
                  have EO := Aside0.mk eo
                  have HNO2 := Aside0.mk hno
                  clear eo hno elen
                  go_wp2_with fail
                  refine (copy_walk B g c k cur w l false _ wr HREL.out.st HG.out HNC.out (Nat.le_trans HL.out (by decide)) HT.out (HK.out)).mono ?_
                  rintro e w1 ⟨rfl, v1, hs1, ho1⟩
                  have eo := (HREL.out.off rfl).1
                  have elen : out.length = k := by have := HK.out; rw [eo]; simp; omega
                  rw [← eo, ← elen] at ho1
                  clear elen eo
                  have cM1 := cell_of_one hs1.hmt
                  have cC1 := cell_of_one hs1.hcp
                  have cR1 := cell_of_one hs1.hres
                  have fR1 := free_of_one hs1.hres
                  go_wp2_with (first | (at_builtin; refine wpList_append_own _ rfl _ _ 22 rfl (B + 3) 5 i0 (.int .u8 0) 1 1 Tryd.underlying22 hi0 hz0 hz1 hz2 rfl (by decide) _ out.length (nums .u8 out) rfl (ho1.alloc _) ⟨w1.heap.size, 0, none⟩ 1 1 [.int .u8 46] rfl rfl ?c1 ?c2 ?c3 ?c4 ?c5 ?_))
                  case c1 =>
                    intro j u hj
                    match j, hj with
                    | 0, hj => simp at hj; subst hj; simp [Addr.add]
                  case c2 => intro u hu; simp at hu; subst hu; rfl
                  case c3 => exact a_c3 HREL.out.len HLT.out HL.out (by decide)
                  case c4 => exact a_c4 HREL.out.len HLT.out HL.out (by decide)
                  case c5 => exact (hs1.alloc HG.out _).sz
                  intro v2 w2 ho2 hg2 _
                  have hr2 : ∀ k, v1.ownBlock = some k → B + 3 ≤ k := fun k hk => (ho1.lt k hk).1
                  have hs2 := (hs1.alloc HG.out _).grown hg2 hr2 HG.out
                  obtain ⟨g2, cap2, rfl, _⟩ := ho2.form (by omega)
                  have cM2 := cell_of_one hs2.hmt
                  have cC2 := cell_of_one hs2.hcp
                  have cR2 := cell_of_one hs2.hres
                  have fR2 := free_of_one hs2.hres
                  have ho3 := ownsRow_setCell_below ho2 (a := ⟨B + 1 + 1, 0, none⟩) (by show B + 1 + 1 < B + 3; omega) (.slice (some ⟨g2, 0, none⟩) (out.length + 1) cap2)
                  have hs3 := hs2.setRes HG.out (.slice (some ⟨g2, 0, none⟩) (out.length + 1) cap2)
                  have HS3 := Aside0.mk hs3
                  have HO3 := Aside0.mk ho3
                  clear hs3 ho3 hs2 ho2 hg2 hr2
                  go_wp2_with fail
                  go_roundw
                  case rel => exact ⟨k + 1, out ++ [46], true, _, HLT.out, by (first | rw [a_j1 HREL.out.len HLT.out HL.out, a_j2 HREL.out.len HLT.out HL.out] | rw [a_j3 HREL.out.len HLT.out HL.out] | rw [a_j1 HREL.out.len HLT.out HL.out]); exact congrArg _ (e_j out [46]), by first | rfl | exact congrArg _ (a_k1 HLT.out HL.out), ⟨RelC.next HS3.out HO3.out HCV.out (by simp) (by simp) HREL.out.len⟩⟩
                  case measure => rw [a_k1 HLT.out HL.out]; exact Road.leftOf_lt HLT.out
                · obtain ⟨g1, cap1, rfl, _⟩ := (HREL.out.on rfl).1.form HOP.out
                  have hcy : wr.cell? ⟨g1, q, none⟩ = some (.int .u8 y) := by rw [HQ.out]; exact own_last (HREL.out.on rfl).1 HY.out
                  have ql := eq_true (show q < out.length by have := HQ.out; have := HOP.out; omega)
                  have qL := eq_true (show (q : Int) < (out.length : Int) by have := HQ.out; have := HOP.out; omega)
                  have hs1 := HREL.out.st
                  have ho1 := (HREL.out.on rfl).1
                  go_wp2_with (first | (at_builtin; refine wpList_append_own _ rfl _ _ 22 rfl (B + 3) 5 i0 (.int .u8 0) 1 1 Tryd.underlying22 hi0 hz0 hz1 hz2 rfl (by decide) _ out.length (nums .u8 out) rfl (ho1.alloc _) ⟨wr.heap.size, 0, none⟩ 1 1 [.int .u8 46] rfl rfl ?c1 ?c2 ?c3 ?c4 ?c5 ?_))
                  case c1 =>
                    intro j u hj
                    match j, hj with
                    | 0, hj => simp at hj; subst hj; simp [Addr.add]
                  case c2 => intro u hu; simp at hu; subst hu; rfl
                  case c3 => exact a_c3 HREL.out.len HLT.out HL.out (by decide)
                  case c4 => exact a_c4 HREL.out.len HLT.out HL.out (by decide)
                  case c5 => exact (hs1.alloc HG.out _).sz
                  intro v2 w2 ho2 hg2 _
                  have hr2 : ∀ k, (Value.slice (some ⟨g1, 0, none⟩) out.length cap1).ownBlock = some k → B + 3 ≤ k := fun k hk => (ho1.lt k hk).1
                  have hs2 := (hs1.alloc HG.out _).grown hg2 hr2 HG.out
                  obtain ⟨g2, cap2, rfl, _⟩ := ho2.form (by omega)
                  have cM2 := cell_of_one hs2.hmt
                  have cC2 := cell_of_one hs2.hcp
                  have cR2 := cell_of_one hs2.hres
                  have fR2 := free_of_one hs2.hres
                  have ho3 := ownsRow_setCell_below ho2 (a := ⟨B + 1 + 1, 0, none⟩) (by show B + 1 + 1 < B + 3; omega) (.slice (some ⟨g2, 0, none⟩) (out.length + 1) cap2)
                  have hs3 := hs2.setRes HG.out (.slice (some ⟨g2, 0, none⟩) (out.length + 1) cap2)
                  have HS3 := Aside0.mk hs3
                  have HO3 := Aside0.mk ho3
                  clear hs3 ho3 hs2 ho2 hg2 hr2
                  go_wp2_with fail
                  go_roundw
                  case rel => exact ⟨k + 1, out ++ [46], true, _, HLT.out, by (first | rw [a_j1 HREL.out.len HLT.out HL.out, a_j2 HREL.out.len HLT.out HL.out] | rw [a_j3 HREL.out.len HLT.out HL.out] | rw [a_j1 HREL.out.len HLT.out HL.out]); exact congrArg _ (e_j out [46]), by first | rfl | exact congrArg _ (a_k1 HLT.out HL.out), ⟨RelC.next HS3.out HO3.out HCV.out (by simp) (by simp) HREL.out.len⟩⟩
                  case measure => rw [a_k1 HLT.out HL.out]; exact Road.leftOf_lt HLT.out
      · have HD := Aside0.mk (show l.drop k = x :: l.drop (k + 1) from HD0.out)
        by_cases hx46 : x = 46
        · rw [if_neg hx47, if_neg (by rw [hx46]; decide), if_pos hx46] at hcv
          have HCV := Aside0.mk hcv
          clear hcv
          subst hx46
          clear hx47
          cases cp
          · go_wp2_with fail
            refine (copy_walk B g c k cur w l false _ wr HREL.out.st HG.out HNC.out (Nat.le_trans HL.out (by decide)) HT.out (HK.out)).mono ?_
            rintro e w1 ⟨rfl, v1, hs1, ho1⟩
            have eo := (HREL.out.off rfl).1
            have elen : out.length = k := by have := HK.out; rw [eo]; simp; omega
            rw [← eo, ← elen] at ho1
            clear elen eo
            have cM1 := cell_of_one hs1.hmt
            have cC1 := cell_of_one hs1.hcp
            have cR1 := cell_of_one hs1.hres
            have fR1 := free_of_one hs1.hres
            go_wp2_with (first | (at_builtin; refine wpList_append_own _ rfl _ _ 22 rfl (B + 3) 5 i0 (.int .u8 0) 1 1 Tryd.underlying22 hi0 hz0 hz1 hz2 rfl (by decide) _ out.length (nums .u8 out) rfl (ho1.alloc _) ⟨w1.heap.size, 0, none⟩ 2 2 [.int .u8 47, .int .u8 47] rfl rfl ?c1 ?c2 ?c3 ?c4 ?c5 ?_))
            case c1 =>
              intro j u hj
              match j, hj with
              | 0, hj => simp at hj; subst hj; simp [Addr.add]
              | 1, hj => simp at hj; subst hj; simp [Addr.add]
            case c2 => intro u hu; simp at hu; rcases hu with rfl | rfl <;> rfl
            case c3 => exact a_c3 HREL.out.len HLT.out HL.out (by decide)
            case c4 => exact a_c4 HREL.out.len HLT.out HL.out (by decide)
            case c5 => exact (hs1.alloc HG.out _).sz
            intro v2 w2 ho2 hg2 _
            have hr2 : ∀ k, v1.ownBlock = some k → B + 3 ≤ k := fun k hk => (ho1.lt k hk).1
            have hs2 := (hs1.alloc HG.out _).grown hg2 hr2 HG.out
            obtain ⟨g2, cap2, rfl, _⟩ := ho2.form (by omega)
            have cM2 := cell_of_one hs2.hmt
            have cC2 := cell_of_one hs2.hcp
            have cR2 := cell_of_one hs2.hres
            have fR2 := free_of_one hs2.hres
            have ho3 := ownsRow_setCell_below ho2 (a := ⟨B + 1 + 1, 0, none⟩) (by show B + 1 + 1 < B + 3; omega) (.slice (some ⟨g2, 0, none⟩) (out.length + 2) cap2)
            have hs3 := hs2.setRes HG.out (.slice (some ⟨g2, 0, none⟩) (out.length + 2) cap2)
            have HS3 := Aside0.mk hs3
            have HO3 := Aside0.mk ho3
            clear hs3 ho3 hs2 ho2 hg2 hr2
            go_wp2_with fail
            go_roundw
            case rel => exact ⟨k + 1, out ++ [47, 47], true, _, HLT.out, by (first | rw [a_j1 HREL.out.len HLT.out HL.out, a_j2 HREL.out.len HLT.out HL.out] | rw [a_j3 HREL.out.len HLT.out HL.out] | rw [a_j1 HREL.out.len HLT.out HL.out]); exact congrArg _ (e_j out [47, 47]), by first | rfl | exact congrArg _ (a_k1 HLT.out HL.out), ⟨RelC.next HS3.out HO3.out HCV.out (by simp) (by simp) HREL.out.len⟩⟩
            case measure => rw [a_k1 HLT.out HL.out]; exact Road.leftOf_lt HLT.out
          · obtain ⟨g1, cap1, rfl, _⟩ := (HREL.out.on rfl).1.form (List.length_pos_iff.2 (HREL.out.on rfl).2)
            have hs1 := HREL.out.st
            have ho1 := (HREL.out.on rfl).1
            go_wp2_with (first | (at_builtin; refine wpList_append_own _ rfl _ _ 22 rfl (B + 3) 5 i0 (.int .u8 0) 1 1 Tryd.underlying22 hi0 hz0 hz1 hz2 rfl (by decide) _ out.length (nums .u8 out) rfl (ho1.alloc _) ⟨wr.heap.size, 0, none⟩ 2 2 [.int .u8 47, .int .u8 47] rfl rfl ?c1 ?c2 ?c3 ?c4 ?c5 ?_))
            case c1 =>
              intro j u hj
              match j, hj with
              | 0, hj => simp at hj; subst hj; simp [Addr.add]
              | 1, hj => simp at hj; subst hj; simp [Addr.add]
            case c2 => intro u hu; simp at hu; rcases hu with rfl | rfl <;> rfl
            case c3 => exact a_c3 HREL.out.len HLT.out HL.out (by decide)
            case c4 => exact a_c4 HREL.out.len HLT.out HL.out (by decide)
            case c5 => exact (hs1.alloc HG.out _).sz
            intro v2 w2 ho2 hg2 _
            have hr2 : ∀ k, (Value.slice (some ⟨g1, 0, none⟩) out.length cap1).ownBlock = some k → B + 3 ≤ k := fun k hk => (ho1.lt k hk).1
            have hs2 := (hs1.alloc HG.out _).grown hg2 hr2 HG.out
            obtain ⟨g2, cap2, rfl, _⟩ := ho2.form (by omega)
            have cM2 := cell_of_one hs2.hmt
            have cC2 := cell_of_one hs2.hcp
            have cR2 := cell_of_one hs2.hres
            have fR2 := free_of_one hs2.hres
            have ho3 := ownsRow_setCell_below ho2 (a := ⟨B + 1 + 1, 0, none⟩) (by show B + 1 + 1 < B + 3; omega) (.slice (some ⟨g2, 0, none⟩) (out.length + 2) cap2)
            have hs3 := hs2.setRes HG.out (.slice (some ⟨g2, 0, none⟩) (out.length + 2) cap2)
            have HS3 := Aside0.mk hs3
            have HO3 := Aside0.mk ho3
            clear hs3 ho3 hs2 ho2 hg2 hr2
            go_wp2_with fail
            go_roundw
            case rel => exact ⟨k + 1, out ++ [47, 47], true, _, HLT.out, by (first | rw [a_j1 HREL.out.len HLT.out HL.out, a_j2 HREL.out.len HLT.out HL.out] | rw [a_j3 HREL.out.len HLT.out HL.out] | rw [a_j1 HREL.out.len HLT.out HL.out]); exact congrArg _ (e_j out [47, 47]), by first | rfl | exact congrArg _ (a_k1 HLT.out HL.out), ⟨RelC.next HS3.out HO3.out HCV.out (by simp) (by simp) HREL.out.len⟩⟩
            case measure => rw [a_k1 HLT.out HL.out]; exact Road.leftOf_lt HLT.out
        · by_cases hx43 : x = 43
          · have hwc : wc = true := by cases wc; simp [hx47, hx46, hx43] at hcv; rfl
            subst hwc
            subst hx43
            have hcv2 : convI true (out ++ [42]) (l.drop (k + 1)) = some r := by simpa using hcv
            clear hcv
            have HCV := Aside0.mk hcv2
            clear hcv2 hx47 hx46
            cases cp
            · go_wp2_with fail
              refine (copy_walk B g c k cur w l false _ wr HREL.out.st HG.out HNC.out (Nat.le_trans HL.out (by decide)) HT.out (HK.out)).mono ?_
              rintro e w1 ⟨rfl, v1, hs1, ho1⟩
              have eo := (HREL.out.off rfl).1
              have elen : out.length = k := by have := HK.out; rw [eo]; simp; omega
              rw [← eo, ← elen] at ho1
              clear elen eo
              have cM1 := cell_of_one hs1.hmt
              have cC1 := cell_of_one hs1.hcp
              have cR1 := cell_of_one hs1.hres
              have fR1 := free_of_one hs1.hres
              have hb1 : w1.cell? ⟨g, k, none⟩ = some (.int .u8 43) := arg_drop hs1.hrow HT.out HD.out
              go_wp2_with (first | (at_builtin; refine wpList_append_own _ rfl _ _ 22 rfl (B + 3) 5 i0 (.int .u8 0) 1 1 Tryd.underlying22 hi0 hz0 hz1 hz2 rfl (by decide) _ out.length (nums .u8 out) rfl (ho1.alloc _) ⟨w1.heap.size, 0, none⟩ 1 1 [.int .u8 42] rfl rfl ?c1 ?c2 ?c3 ?c4 ?c5 ?_))
              case c1 =>
                intro j u hj
                match j, hj with
                | 0, hj => simp at hj; subst hj; simp [Addr.add]
              case c2 => intro u hu; simp at hu; subst hu; rfl
              case c3 => exact a_c3 HREL.out.len HLT.out HL.out (by decide)
              case c4 => exact a_c4 HREL.out.len HLT.out HL.out (by decide)
              case c5 => exact (hs1.alloc HG.out _).sz
              intro v2 w2 ho2 hg2 _
              have hr2 : ∀ k, v1.ownBlock = some k → B + 3 ≤ k := fun k hk => (ho1.lt k hk).1
              have hs2 := (hs1.alloc HG.out _).grown hg2 hr2 HG.out
              obtain ⟨g2, cap2, rfl, _⟩ := ho2.form (by omega)
              have cM2 := cell_of_one hs2.hmt
              have cC2 := cell_of_one hs2.hcp
              have cR2 := cell_of_one hs2.hres
              have fR2 := free_of_one hs2.hres
              have ho3 := ownsRow_setCell_below ho2 (a := ⟨B + 1 + 1, 0, none⟩) (by show B + 1 + 1 < B + 3; omega) (.slice (some ⟨g2, 0, none⟩) (out.length + 1) cap2)
              have hs3 := hs2.setRes HG.out (.slice (some ⟨g2, 0, none⟩) (out.length + 1) cap2)
              have HS3 := Aside0.mk hs3
              have HO3 := Aside0.mk ho3
              clear hs3 ho3 hs2 ho2 hg2 hr2
              go_wp2_with fail
              go_roundw
              case rel => exact ⟨k + 1, out ++ [42], true, _, HLT.out, by (first | rw [a_j1 HREL.out.len HLT.out HL.out, a_j2 HREL.out.len HLT.out HL.out] | rw [a_j3 HREL.out.len HLT.out HL.out] | rw [a_j1 HREL.out.len HLT.out HL.out]); exact congrArg _ (e_j out [42]), by first | rfl | exact congrArg _ (a_k1 HLT.out HL.out), ⟨RelC.next HS3.out HO3.out HCV.out (by simp) (by simp) HREL.out.len⟩⟩
              case measure => rw [a_k1 HLT.out HL.out]; exact Road.leftOf_lt HLT.out
            · obtain ⟨g1, cap1, rfl, _⟩ := (HREL.out.on rfl).1.form (List.length_pos_iff.2 (HREL.out.on rfl).2)
              have hs1 := HREL.out.st
              have ho1 := (HREL.out.on rfl).1
              go_wp2_with (first | (at_builtin; refine wpList_append_own _ rfl _ _ 22 rfl (B + 3) 5 i0 (.int .u8 0) 1 1 Tryd.underlying22 hi0 hz0 hz1 hz2 rfl (by decide) _ out.length (nums .u8 out) rfl (ho1.alloc _) ⟨wr.heap.size, 0, none⟩ 1 1 [.int .u8 42] rfl rfl ?c1 ?c2 ?c3 ?c4 ?c5 ?_))
              case c1 =>
                intro j u hj
                match j, hj with
                | 0, hj => simp at hj; subst hj; simp [Addr.add]
              case c2 => intro u hu; simp at hu; subst hu; rfl
              case c3 => exact a_c3 HREL.out.len HLT.out HL.out (by decide)
              case c4 => exact a_c4 HREL.out.len HLT.out HL.out (by decide)
              case c5 => exact (hs1.alloc HG.out _).sz
              intro v2 w2 ho2 hg2 _
              have hr2 : ∀ k, (Value.slice (some ⟨g1, 0, none⟩) out.length cap1).ownBlock = some k → B + 3 ≤ k := fun k hk => (ho1.lt k hk).1
              have hs2 := (hs1.alloc HG.out _).grown hg2 hr2 HG.out
              obtain ⟨g2, cap2, rfl, _⟩ := ho2.form (by omega)
              have cM2 := cell_of_one hs2.hmt
              have cC2 := cell_of_one hs2.hcp
              have cR2 := cell_of_one hs2.hres
              have fR2 := free_of_one hs2.hres
              have ho3 := ownsRow_setCell_below ho2 (a := ⟨B + 1 + 1, 0, none⟩) (by show B + 1 + 1 < B + 3; omega) (.slice (some ⟨g2, 0, none⟩) (out.length + 1) cap2)
              have hs3 := hs2.setRes HG.out (.slice (some ⟨g2, 0, none⟩) (out.length + 1) cap2)
              have HS3 := Aside0.mk hs3
              have HO3 := Aside0.mk ho3
              clear hs3 ho3 hs2 ho2 hg2 hr2
              go_wp2_with fail
              go_roundw
              case rel => exact ⟨k + 1, out ++ [42], true, _, HLT.out, by (first | rw [a_j1 HREL.out.len HLT.out HL.out, a_j2 HREL.out.len HLT.out HL.out] | rw [a_j3 HREL.out.len HLT.out HL.out] | rw [a_j1 HREL.out.len HLT.out HL.out]); exact congrArg _ (e_j out [42]), by first | rfl | exact congrArg _ (a_k1 HLT.out HL.out), ⟨RelC.next HS3.out HO3.out HCV.out (by simp) (by simp) HREL.out.len⟩⟩
              case measure => rw [a_k1 HLT.out HL.out]; exact Road.leftOf_lt HLT.out
          · by_cases hx35 : x = 35
            · have hwc : wc = true := by cases wc; simp [hx47, hx46, hx35] at hcv; rfl
              subst hwc
              subst hx35
              have hcv2 : convI true (out ++ [62]) (l.drop (k + 1)) = some r := by simpa using hcv
              clear hcv
              have HCV := Aside0.mk hcv2
              clear hcv2 hx47 hx46 hx43
              cases cp
              · go_wp2_with fail
                refine (copy_walk B g c k cur w l false _ wr HREL.out.st HG.out HNC.out (Nat.le_trans HL.out (by decide)) HT.out (HK.out)).mono ?_
                rintro e w1 ⟨rfl, v1, hs1, ho1⟩
                have eo := (HREL.out.off rfl).1
                have elen : out.length = k := by have := HK.out; rw [eo]; simp; omega
                rw [← eo, ← elen] at ho1
                clear elen eo
                have cM1 := cell_of_one hs1.hmt
                have cC1 := cell_of_one hs1.hcp
                have cR1 := cell_of_one hs1.hres
                have fR1 := free_of_one hs1.hres
                have hb1 : w1.cell? ⟨g, k, none⟩ = some (.int .u8 35) := arg_drop hs1.hrow HT.out HD.out
                go_wp2_with (first | (at_builtin; refine wpList_append_own _ rfl _ _ 22 rfl (B + 3) 5 i0 (.int .u8 0) 1 1 Tryd.underlying22 hi0 hz0 hz1 hz2 rfl (by decide) _ out.length (nums .u8 out) rfl (ho1.alloc _) ⟨w1.heap.size, 0, none⟩ 1 1 [.int .u8 62] rfl rfl ?c1 ?c2 ?c3 ?c4 ?c5 ?_))
                case c1 =>
                  intro j u hj
                  match j, hj with
                  | 0, hj => simp at hj; subst hj; simp [Addr.add]
                case c2 => intro u hu; simp at hu; subst hu; rfl
                case c3 => exact a_c3 HREL.out.len HLT.out HL.out (by decide)
                case c4 => exact a_c4 HREL.out.len HLT.out HL.out (by decide)
                case c5 => exact (hs1.alloc HG.out _).sz
                intro v2 w2 ho2 hg2 _
                have hr2 : ∀ k, v1.ownBlock = some k → B + 3 ≤ k := fun k hk => (ho1.lt k hk).1
                have hs2 := (hs1.alloc HG.out _).grown hg2 hr2 HG.out
                obtain ⟨g2, cap2, rfl, _⟩ := ho2.form (by omega)
                have cM2 := cell_of_one hs2.hmt
                have cC2 := cell_of_one hs2.hcp
                have cR2 := cell_of_one hs2.hres
                have fR2 := free_of_one hs2.hres
                have ho3 := ownsRow_setCell_below ho2 (a := ⟨B + 1 + 1, 0, none⟩) (by show B + 1 + 1 < B + 3; omega) (.slice (some ⟨g2, 0, none⟩) (out.length + 1) cap2)
                have hs3 := hs2.setRes HG.out (.slice (some ⟨g2, 0, none⟩) (out.length + 1) cap2)
                have HS3 := Aside0.mk hs3
                have HO3 := Aside0.mk ho3
                clear hs3 ho3 hs2 ho2 hg2 hr2
                go_wp2_with fail
                go_roundw
                case rel => exact ⟨k + 1, out ++ [62], true, _, HLT.out, by (first | rw [a_j1 HREL.out.len HLT.out HL.out, a_j2 HREL.out.len HLT.out HL.out] | rw [a_j3 HREL.out.len HLT.out HL.out] | rw [a_j1 HREL.out.len HLT.out HL.out]); exact congrArg _ (e_j out [62]), by first | rfl | exact congrArg _ (a_k1 HLT.out HL.out), ⟨RelC.next HS3.out HO3.out HCV.out (by simp) (by simp) HREL.out.len⟩⟩
                case measure => rw [a_k1 HLT.out HL.out]; exact Road.leftOf_lt HLT.out
              · obtain ⟨g1, cap1, rfl, _⟩ := (HREL.out.on rfl).1.form (List.length_pos_iff.2 (HREL.out.on rfl).2)
                have hs1 := HREL.out.st
                have ho1 := (HREL.out.on rfl).1
                go_wp2_with (first | (at_builtin; refine wpList_append_own _ rfl _ _ 22 rfl (B + 3) 5 i0 (.int .u8 0) 1 1 Tryd.underlying22 hi0 hz0 hz1 hz2 rfl (by decide) _ out.length (nums .u8 out) rfl (ho1.alloc _) ⟨wr.heap.size, 0, none⟩ 1 1 [.int .u8 62] rfl rfl ?c1 ?c2 ?c3 ?c4 ?c5 ?_))
                case c1 =>
                  intro j u hj
                  match j, hj with
                  | 0, hj => simp at hj; subst hj; simp [Addr.add]
                case c2 => intro u hu; simp at hu; subst hu; rfl
                case c3 => exact a_c3 HREL.out.len HLT.out HL.out (by decide)
                case c4 => exact a_c4 HREL.out.len HLT.out HL.out (by decide)
                case c5 => exact (hs1.alloc HG.out _).sz
                intro v2 w2 ho2 hg2 _
                have hr2 : ∀ k, (Value.slice (some ⟨g1, 0, none⟩) out.length cap1).ownBlock = some k → B + 3 ≤ k := fun k hk => (ho1.lt k hk).1
                have hs2 := (hs1.alloc HG.out _).grown hg2 hr2 HG.out
                obtain ⟨g2, cap2, rfl, _⟩ := ho2.form (by omega)
                have cM2 := cell_of_one hs2.hmt
                have cC2 := cell_of_one hs2.hcp
                have cR2 := cell_of_one hs2.hres
                have fR2 := free_of_one hs2.hres
                have ho3 := ownsRow_setCell_below ho2 (a := ⟨B + 1 + 1, 0, none⟩) (by show B + 1 + 1 < B + 3; omega) (.slice (some ⟨g2, 0, none⟩) (out.length + 1) cap2)
                have hs3 := hs2.setRes HG.out (.slice (some ⟨g2, 0, none⟩) (out.length + 1) cap2)
                have HS3 := Aside0.mk hs3
                have HO3 := Aside0.mk ho3
                clear hs3 ho3 hs2 ho2 hg2 hr2
                go_wp2_with fail
                go_roundw
                case rel => exact ⟨k + 1, out ++ [62], true, _, HLT.out, by (first | rw [a_j1 HREL.out.len HLT.out HL.out, a_j2 HREL.out.len HLT.out HL.out] | rw [a_j3 HREL.out.len HLT.out HL.out] | rw [a_j1 HREL.out.len HLT.out HL.out]); exact congrArg _ (e_j out [62]), by first | rfl | exact congrArg _ (a_k1 HLT.out HL.out), ⟨RelC.next HS3.out HO3.out HCV.out (by simp) (by simp) HREL.out.len⟩⟩
                case measure => rw [a_k1 HLT.out HL.out]; exact Road.leftOf_lt HLT.out
            · rw [if_neg hx47] at hcv
              have hws : ¬ (x = 32 ∨ x = 9 ∨ x = 10 ∨ x = 13 ∨ x = 12 ∨ x = 127) := by intro h; rw [if_pos h] at hcv; simp at hcv
              rw [if_neg hws, if_neg hx46, if_neg (by simp [hx43, hx35])] at hcv
              have HCV := Aside0.mk hcv
              clear hcv
              have n47 : (x == (47 : Int)) = false := beq_eq_false_iff_ne.mpr hx47
              have n46 : (x == (46 : Int)) = false := beq_eq_false_iff_ne.mpr hx46
              have n43 : (x == (43 : Int)) = false := beq_eq_false_iff_ne.mpr hx43
              have n35 : (x == (35 : Int)) = false := beq_eq_false_iff_ne.mpr hx35
              have n32 : (x == (32 : Int)) = false := beq_eq_false_iff_ne.mpr (fun h => hws (by simp [h]))
              have n9 : (x == (9 : Int)) = false := beq_eq_false_iff_ne.mpr (fun h => hws (by simp [h]))
              have n10 : (x == (10 : Int)) = false := beq_eq_false_iff_ne.mpr (fun h => hws (by simp [h]))
              have n13 : (x == (13 : Int)) = false := beq_eq_false_iff_ne.mpr (fun h => hws (by simp [h]))
              have n12 : (x == (12 : Int)) = false := beq_eq_false_iff_ne.mpr (fun h => hws (by simp [h]))
              have n127 : (x == (127 : Int)) = false := beq_eq_false_iff_ne.mpr (fun h => hws (by simp [h]))
              have HX46 := Aside0.mk hx46
              clear hws hx47 hx46 hx43 hx35
              cases cp
              · have HKP := Aside0.mk (HREL.out.keep HLT.out HD.out HX46.out HCV.out)
                go_wp2_with fail
                go_roundw
                case rel => exact ⟨k + 1, out ++ [x], false, _, HLT.out, by rw [a_j1 HREL.out.len HLT.out HL.out]; exact congrArg _ (e_j out [x]), by first | rfl | exact congrArg _ (a_k1 HLT.out HL.out), HKP⟩
                case measure => rw [a_k1 HLT.out HL.out]; exact Road.leftOf_lt HLT.out
              · obtain ⟨g1, cap1, rfl, _⟩ := (HREL.out.on rfl).1.form (List.length_pos_iff.2 (HREL.out.on rfl).2)
                have hs1 := HREL.out.st
                have ho1 := (HREL.out.on rfl).1
                go_wp2_with fail
                have hr2 : ∀ k, (Value.slice (some ⟨g1, 0, none⟩) out.length cap1).ownBlock = some k → B + 3 ≤ k := fun k hk => (ho1.lt k hk).1
                have ho9 := (ho1.alloc (Obj.cells #[Value.int .u8 x] 5)).drew
                have hs9 := (hs1.alloc HG.out (Obj.cells #[Value.int .u8 x] 5)).drew
                have cR9 := cell_of_one hs9.hres
                have cR8 : (wr.alloc (Obj.cells #[Value.int .u8 x] 5)).cell? ⟨B + 1 + 1, 0, none⟩ = some (Value.slice (some ⟨g1, 0, none⟩) out.length cap1) := cell_of_one (hs1.alloc HG.out (Obj.cells #[Value.int .u8 x] 5)).hres
                go_region_law (first | (refine step_append_lies (hgd := rfl) (s := .tmp 28) (x := .tmp 33) (t := 22) (ho := rfl) (base := B + 3) (e := 5) (i := i0) (z := .int .u8 0) (size := 1) (bytes := 1) (ht := Tryd.underlying22) (hi := hi0) (hz := hz0) (hsize := hz1) (hby := hz2) (hzs := rfl) (hsz := Nat.one_pos) (v := .slice (some ⟨g1, 0, none⟩) out.length cap1) (n := out.length) (xs := nums .u8 out) (hs := by first | rfl | simp [Act.eval, Act.put]) (hown := ho9) (ad := ⟨wr.heap.size, 0, none⟩) (m := 1) (c := 1) (news := [.int .u8 x]) (hx := by first | rfl | simp [Act.eval, Act.put]) (hl := rfl) (hnews := news1 wr _ x) (h1 := one1 x) (hm := Nat.one_pos) (h63 := a_c3 (m := 1) HREL.out.len HLT.out HL.out (by decide)) (hbytes := a_c4 (m := 1) HREL.out.len HLT.out HL.out (by decide)) (hbase := hs9.sz) (H := _) (hH := rfl) (h := ?_); intro g2 cap2 w2 ho2 hg2 _ _; have hs2 := hs9.grown hg2 hr2 HG.out; have cM2 := cell_of_one hs2.hmt; have cC2 := cell_of_one hs2.hcp; have cR2 := cell_of_one hs2.hres; have fR2 := free_of_one hs2.hres))
                all_goals (
                  have ho3 := ownsRow_setCell_below ho2 (a := ⟨B + 1 + 1, 0, none⟩) (by show B + 1 + 1 < B + 3; omega) (.slice (some ⟨g2, 0, none⟩) (out.length + 1) cap2)
                  have hs3 := hs2.setRes HG.out (.slice (some ⟨g2, 0, none⟩) (out.length + 1) cap2)
                  have HS3 := Aside0.mk hs3
                  have HO3 := Aside0.mk ho3
                  clear hs3 ho3 hs2 ho2 hg2
                  go_wp2_with fail
                  go_roundw
                  case rel => exact ⟨k + 1, out ++ [x], true, _, HLT.out, by rw [a_j1 HREL.out.len HLT.out HL.out]; exact congrArg _ (e_j out [x]), by first | rfl | exact congrArg _ (a_k1 HLT.out HL.out), ⟨RelC.next HS3.out HO3.out HCV.out (by simp) (by simp) HREL.out.len⟩⟩
                  case measure => rw [a_k1 HLT.out HL.out]; exact Road.leftOf_lt HLT.out)
    · have hkl : k = l.length := by omega
      have ck := eq_false (show ¬ (k : Int) < (l.length : Int) by omega)
      have ck' := eq_false hlt
      have HKL := Aside0.mk hkl
      have HK := Aside0.mk hk
      have hcv := HREL.out.conv
      rw [hkl, List.drop_length, convI] at hcv
      have hcv2 := Option.some.inj hcv
      have HCV := Aside0.mk hcv2
      have cM := cell_of_one HREL.out.st.hmt
      have cC := cell_of_one HREL.out.st.hcp
      have cR := cell_of_one HREL.out.st.hres
      have fR := free_of_one HREL.out.st.hres
      have hstb := HREL.out.st.below
      have HSTB := Aside0.mk hstb
      clear hcv hcv2 hkl hk hlt hstb
      cases cp
      · obtain ⟨eo, rfl, hno⟩ := HREL.out.off rfl
        have eol : out = l := by rw [eo, HKL.out, List.take_length]
        have o1 := eq_true (show out.length ≤ c by rw [eol]; exact HNC.out)
        have o2 := eq_true (show (out.length : Int) ≤ (c : Int) by have := HNC.out; rw [eol]; omega)
        have o3 := eq_true (show (0 : Int) ≤ (out.length : Int) by omega)
        have EOL := Aside0.mk eol
        have HNO := Aside0.mk hno
        clear eo hno eol
        go_wp2_with fail
        go_ret2
        have er : r = l := by rw [← HCV.out, if_neg (fun h => HNO.out (List.mem_of_getLast? h)), EOL.out]
        refine ⟨_, rfl, ?_, HB.out ▸ HSTB.out⟩
        rw [er, EOL.out]
        exact ⟨H0.out.1, .inr ⟨g, c, cur, rfl, HGB.out, HREL.out.st.hrow, HNC.out, HCM.out, by rw [Nat.mul_one]; exact HSZ.out, by rw [Nat.mul_one]; exact HT.out⟩⟩
      · have hop := List.length_pos_iff.2 (HREL.out.on rfl).2
        obtain ⟨y, hy⟩ := last_of (HREL.out.on rfl).2
        obtain ⟨q, hq⟩ : ∃ q, q = out.length - 1 := ⟨_, rfl⟩
        have hq1 : wrap64 ((out.length : Int) - 1) = (q : Int) := by rw [hq]; exact a_m1 HREL.out.len HK.out HL.out hop
        have HY := Aside0.mk hy
        have HQ := Aside0.mk hq
        have HOP := Aside0.mk hop
        have q0 := eq_true (show (0 : Int) ≤ (q : Int) by omega)
        clear hy hq hop
        obtain ⟨g1, cap1, rfl, _⟩ := (HREL.out.on rfl).1.form HOP.out
        have hcy : wr.cell? ⟨g1, q, none⟩ = some (.int .u8 y) := by rw [HQ.out]; exact own_last (HREL.out.on rfl).1 HY.out
        have ql := eq_true (show q < out.length by have := HQ.out; have := HOP.out; omega)
        have qL := eq_true (show (q : Int) < (out.length : Int) by have := HQ.out; have := HOP.out; omega)
        by_cases hy46 : y = 46
        · have hcy46 : (y == (46 : Int)) = true := by simp [hy46]
          have HY46 := Aside0.mk hy46
          clear hy46
          obtain ⟨i0, hi0, hz0, hz1, hz2⟩ := info_parts uinfo
          have hs1 := HREL.out.st
          have ho1 := (HREL.out.on rfl).1
          go_wp2_with (first | (at_builtin; refine wpList_append_own _ rfl _ _ 22 rfl (B + 3) 5 i0 (.int .u8 0) 1 1 Tryd.underlying22 hi0 hz0 hz1 hz2 rfl (by decide) _ out.length (nums .u8 out) rfl (ho1.alloc _) ⟨wr.heap.size, 0, none⟩ 1 1 [.int .u8 47] rfl rfl ?c1 ?c2 ?c3 ?c4 ?c5 ?_))
          case c1 =>
            intro j u hj
            match j, hj with
            | 0, hj => simp at hj; subst hj; simp [Addr.add]
          case c2 => intro u hu; simp at hu; subst hu; rfl
          case c3 => exact a_e3 HREL.out.len HK.out HL.out (by decide)
          case c4 => exact a_e4 HREL.out.len HK.out HL.out (by decide)
          case c5 => exact (hs1.alloc HG.out _).sz
          intro v2 w2 ho2 hg2 _
          obtain ⟨m, hm⟩ : ∃ m, out.length + 1 = m := ⟨_, rfl⟩
          have hmw : wrap64 ((out.length : Int) + 1) = (m : Int) := by rw [← hm]; exact a_e1 HREL.out.len HK.out HL.out
          rw [hm] at ho2
          have hr2 : ∀ k, (Value.slice (some ⟨g1, 0, none⟩) out.length cap1).ownBlock = some k → B + 3 ≤ k := fun k hk => (ho1.lt k hk).1
          have hs2 := (hs1.alloc HG.out _).grown hg2 hr2 HG.out
          obtain ⟨g2, cap2, rfl, _⟩ := ho2.form (by rw [← hm]; exact Nat.succ_pos _)
          have cM2 := cell_of_one hs2.hmt
          have cC2 := cell_of_one hs2.hcp
          have cR2 := cell_of_one hs2.hres
          have fR2 := free_of_one hs2.hres
          have ho3 := ownsRow_setCell_below ho2 (a := ⟨B + 1 + 1, 0, none⟩) (by show B + 1 + 1 < B + 3; omega) (.slice (some ⟨g2, 0, none⟩) m cap2)
          have hs3 := hs2.setRes HG.out (.slice (some ⟨g2, 0, none⟩) m cap2)
          have hcap := own_cap ho3
          have m1 := eq_true hcap
          have m2 := eq_true (Int.ofNat_le.2 hcap)
          have m3 := eq_true (Int.natCast_nonneg m)
          have HS3 := Aside0.mk hs3
          have HO3 := Aside0.mk ho3
          have HM := Aside0.mk hm
          clear hm hs3 ho3 hs2 ho2 hg2 hr2 hcap
          go_wp2_with fail
          go_ret2
          have er : r = out ++ [47] := by rw [← HCV.out, if_pos (by rw [HY.out, HY46.out])]
          refine ⟨_, rfl, ?_, HB.out ▸ HS3.out.below⟩
          rw [er, List.length_append, show out.length + [(47 : Int)].length = m from HM.out, show nums .u8 (out ++ [47]) = nums .u8 out ++ nums .u8 [47] from List.map_append]
          exact HO3.out.mono (by have := HGB.out; have := HG.out; omega)
        · have hcy46 : (y == (46 : Int)) = false := beq_eq_false_iff_ne.mpr hy46
          have HN46 := Aside0.mk hy46
          have hcap := own_cap (HREL.out.on rfl).1
          have m1 := eq_true hcap
          have m2 := eq_true (show (out.length : Int) ≤ (cap1 : Int) by omega)
          have m3 := eq_true (show (0 : Int) ≤ (out.length : Int) by omega)
          clear hy46 hcap
          go_wp2_with fail
          go_ret2
          have er : r = out := by rw [← HCV.out, if_neg (by rw [HY.out]; intro h; exact HN46.out (Option.some.inj h))]
          refine ⟨_, rfl, ?_, HB.out ▸ HSTB.out⟩
          rw [er]
          exact (HREL.out.on rfl).1.mono (by have := HGB.out; have := HG.out; omega)

end Go.Proofs.YtmfblbjklmgncaaDoor.TopicW
