/- WALKS: the shape of a set's tree. -/
import Derived.Test.YtjhdnapgdajllaaDoorProg
import Derived.Below
import Derived.Deep.Draws
import Derived.Deep.AppendLies
import Derived.Maps.AppendAt
import Derived.OwnWalk
import Derived.Laws.BytesArg
import Derived.Laws.MakeOwn
import Derived.Laws.OwnMore
import Derived.Deep.OwnRows
import Derived.Tactics
import Derived.Lib.ConvBytes
import Derived.Laws.Slices
import Derived.WalkKit
import Derived.KernelRfl
import Derived.RowKit3
import Derived.Deep.LoopGhost
import Derived.Deep.QuietTactic
import Derived.BigQuiet
import Derived.WideLaws
import Derived.Deep.DeepCutAuto
import Derived.Deep.CutBlock
import Derived.Deep.RegionHeld3
import Derived.Laws.Rows
import Derived.Lib.AppendStr
import Derived.ArgAppend
import Derived.Laws.IdiomCopy
import Derived.OrdersHeld
import Derived.Laws.BitsLemmas
import Derived.RowKit
import Derived.Test.YtjhdnapgdajllaaDoorWWords
import Derived.Test.YtjhdnapgdajllaaDoorWLast
import Derived.Test.YtjhdnapgdajllaaDoorWTab
import Derived.Test.YtjhdnapgdajllaaDoorWFour
import Derived.Test.YtjhdnapgdajllaaDoorWQPut
import Derived.Test.YtjhdnapgdajllaaDoorWApart
import Derived.Test.YtjhdnapgdajllaaDoorWArr
import Derived.Test.YtjhdnapgdajllaaDoorWZeros
import Derived.Test.YtjhdnapgdajllaaDoorWFoot
import Derived.Test.YtjhdnapgdajllaaDoorWKept
import Derived.Test.YtjhdnapgdajllaaDoorWShare
import Derived.Test.YtjhdnapgdajllaaDoorWN
import Derived.Test.YtjhdnapgdajllaaDoorWFootNe
import Derived.Test.YtjhdnapgdajllaaDoorWAt
import Derived.Test.YtjhdnapgdajllaaDoorWEqStruct
import Derived.Test.YtjhdnapgdajllaaDoorWRepsOne
import Derived.Test.YtjhdnapgdajllaaDoorWInv
import Derived.Test.YtjhdnapgdajllaaDoorWInvWords
import Derived.Test.YtjhdnapgdajllaaDoorWGuard
import Derived.Test.YtjhdnapgdajllaaDoorWNEv
import Derived.Test.YtjhdnapgdajllaaDoorWMore
import Derived.Test.YtjhdnapgdajllaaDoorSetSpecW
namespace Go.Proofs.YtjhdnapgdajllaaDoor.SetShapeW
open Go.RowKit Go.Proofs.YtjhdnapgdajllaaDoorW.PrintWords Go.Proofs.YtjhdnapgdajllaaDoorW.PrintLast Go.Proofs.YtjhdnapgdajllaaDoorW.PrintMore
attribute [local go_sem] max2_int min2_int max_two min_two max_three min_three max_four min_four   -- for this text's walks alone
set_option linter.unusedVariables false
set_option linter.unusedSimpArgs false



open _root_.Go.Proofs.YtjhdnapgdajllaaDoor.SetW _root_.Go.Proofs.YtjhdnapgdajllaaDoor.SetSpecW
def lhT : Tr → Int
  | .nil => 0
  | .node _ _ _ l _ _ => l.ht
def rhT : Tr → Int
  | .nil => 0
  | .node _ _ _ _ r _ => r.ht
theorem lhT_er (t : Tr) : lhT (er t) = lhT t := by
  cases t with
  | nil => rfl
  | node g b bs l r h => exact er_ht l
theorem rhT_er (t : Tr) : rhT (er t) = rhT t := by
  cases t with
  | nil => rfl
  | node g b bs l r h => exact er_ht r
theorem Nodes_calls (SS : Nat) (t : Tr) (L : List Nat) (w : World) (h : SetAt w SS t L) :
    Calls Tryd.prog 34 #[.pointer (some ⟨SS, 0, none⟩)] w fun e w' => e = .returned (.int .i64 (t.sz : Nat)) ∧ w' = w := by
  have c2 : w.cell? ⟨SS, 2, none⟩ = some (.int .i64 (t.sz : Nat)) := cell_of_row w SS 2 _ _ _ h.ss
  clear h
  go_enter Tryd.func34, Tryd.ntmps34
  go_wp2_with fail
  go_ret
  exact ⟨rfl, rfl⟩
theorem Heights_calls (SS : Nat) (t : Tr) (L : List Nat) (w : World) (h : SetAt w SS t L) :
    Calls Tryd.prog 33 #[.pointer (some ⟨SS, 0, none⟩)] w fun e w' => e = .returned (.tuple #[.int .i64 (lhT t), .int .i64 (rhT t)]) ∧ w' = w := by
  have c0 : w.cell? ⟨SS, 0, none⟩ = some t.p := cell_of_row w SS 0 _ _ _ h.ss
  have ht := h.tr
  clear h
  cases t with
  | nil =>
    replace c0 : w.cell? ⟨SS, 0, none⟩ = some (.pointer none) := c0
    clear ht
    go_enter Tryd.func33, Tryd.ntmps33
    go_wp2_with fail
    refine bodyPost_ret (results_tmp2 rfl _ _ _) rfl ?_
    exact ⟨rfl, rfl⟩
  | node g b bs l r k =>
    obtain ⟨h1, h2, h3, h4⟩ := ht
    replace c0 : w.cell? ⟨SS, 0, none⟩ = some (.pointer (some ⟨g, 0, none⟩)) := c0
    have cl := nd_l h2 h1
    have cr := nd_r h2 h1
    cases l with
    | nil =>
      replace cl : w.cell? ⟨g, 33, none⟩ = some (.pointer none) := cl
      cases r with
      | nil =>
        replace cr : w.cell? ⟨g, 34, none⟩ = some (.pointer none) := cr
        clear h1 h2 h3 h4
        go_enter Tryd.func33, Tryd.ntmps33
        go_wp2_with fail
        refine bodyPost_ret (results_tmp2 rfl _ _ _) rfl ?_
        exact ⟨rfl, rfl⟩
      | node g2 b2 bs2 l2 r2 k2 =>
        replace cr : w.cell? ⟨g, 34, none⟩ = some (.pointer (some ⟨g2, 0, none⟩)) := cr
        have ch2 := nd_h h4.2.1 h4.1
        clear h1 h2 h3 h4
        go_enter Tryd.func33, Tryd.ntmps33
        go_wp2_with fail
        refine bodyPost_ret (results_tmp2 rfl _ _ _) rfl ?_
        exact ⟨rfl, rfl⟩
    | node g1 b1 bs1 l1 r1 k1 =>
      replace cl : w.cell? ⟨g, 33, none⟩ = some (.pointer (some ⟨g1, 0, none⟩)) := cl
      have ch1 := nd_h h3.2.1 h3.1
      cases r with
      | nil =>
        replace cr : w.cell? ⟨g, 34, none⟩ = some (.pointer none) := cr
        clear h1 h2 h3 h4
        go_enter Tryd.func33, Tryd.ntmps33
        go_wp2_with fail
        refine bodyPost_ret (results_tmp2 rfl _ _ _) rfl ?_
        exact ⟨rfl, rfl⟩
      | node g2 b2 bs2 l2 r2 k2 =>
        replace cr : w.cell? ⟨g, 34, none⟩ = some (.pointer (some ⟨g2, 0, none⟩)) := cr
        have ch2 := nd_h h4.2.1 h4.1
        clear h1 h2 h3 h4
        go_enter Tryd.func33, Tryd.ntmps33
        go_wp2_with fail
        refine bodyPost_ret (results_tmp2 rfl _ _ _) rfl ?_
        exact ⟨rfl, rfl⟩
set_option maxHeartbeats 4000000 in
theorem SetShape_walk (A : Option Addr) (c : Nat) (acts : List (Int × Int)) (w : World) (hA : ActsAt w A acts) (hac : acts.length ≤ c) (hF : Formed acts) (hl : acts.length ≤ 9000) :
    Calls Tryd.prog 16 #[.slice A acts.length c] w fun e w' => e = .returned (.tuple #[.int .i64 (lhT (actsT .nil acts)), .int .i64 (rhT (actsT .nil acts)), .int .i64 ((actsT .nil acts).sz : Nat)]) ∧ Below w.heap.size w w' := by
  have HS := Aside0.mk (set_make A c acts w hA hac hF hl)
  clear hA hac hF hl
  go_enter Tryd.func16, Tryd.ntmps16
  go_wp2_with fail
  refine HS.out.mono ?_
  rintro e w3 ⟨SS, t, rfl, hS3, hss, hx, hb3, he⟩
  have H3 := Aside0.mk (And.intro hS3 (And.intro hb3 he))
  clear hS3 hss hx hb3 he
  go_wp2_with fail
  refine (Heights_calls SS t _ w3 H3.out.1).mono ?_
  rintro e w4 ⟨rfl, rfl⟩
  go_wp2_with fail
  refine (Nodes_calls SS t _ w4 H3.out.1).mono ?_
  rintro e w5 ⟨rfl, rfl⟩
  go_wp2_with fail
  refine bodyPost_ret (results_tmp3 rfl _ _ _) rfl ?_
  refine ⟨?_, H3.out.2.1⟩
  rw [← H3.out.2.2, lhT_er, rhT_er, er_sz]
  rfl

end Go.Proofs.YtjhdnapgdajllaaDoor.SetShapeW
