/- WALKS: is a number in a set? -/
import Derived.Test.YtjhdnapgdajllaaDoorProg
import Derived.Below
import Derived.Deep.Draws
import Derived.Deep.AppendLies
import Derived.Maps.AppendAt
import Derived.OwnWalk
import Derived.Laws.BytesArg
import Derived.Laws.MakeOwn
import Derived.Laws.OwnMore
import Derived.Deep.OwnRows
import Derived.Tactics
import Derived.Lib.ConvBytes
import Derived.Laws.Slices
import Derived.WalkKit
import Derived.KernelRfl
import Derived.RowKit3
import Derived.Deep.LoopGhost
import Derived.Deep.QuietTactic
import Derived.BigQuiet
import Derived.WideLaws
import Derived.Deep.DeepCutAuto
import Derived.Deep.CutBlock
import Derived.Deep.RegionHeld3
import Derived.Laws.Rows
import Derived.Lib.AppendStr
import Derived.ArgAppend
import Derived.Laws.IdiomCopy
import Derived.OrdersHeld
import Derived.Laws.BitsLemmas
import Derived.RowKit
import Derived.Test.YtjhdnapgdajllaaDoorWWords
import Derived.Test.YtjhdnapgdajllaaDoorWLast
import Derived.Test.YtjhdnapgdajllaaDoorWTab
import Derived.Test.YtjhdnapgdajllaaDoorWFour
import Derived.Test.YtjhdnapgdajllaaDoorWQPut
import Derived.Test.YtjhdnapgdajllaaDoorWApart
import Derived.Test.YtjhdnapgdajllaaDoorWArr
import Derived.Test.YtjhdnapgdajllaaDoorWZeros
import Derived.Test.YtjhdnapgdajllaaDoorWFoot
import Derived.Test.YtjhdnapgdajllaaDoorWKept
import Derived.Test.YtjhdnapgdajllaaDoorWShare
import Derived.Test.YtjhdnapgdajllaaDoorWN
import Derived.Test.YtjhdnapgdajllaaDoorWFootNe
import Derived.Test.YtjhdnapgdajllaaDoorWAt
import Derived.Test.YtjhdnapgdajllaaDoorWEqStruct
import Derived.Test.YtjhdnapgdajllaaDoorWRepsOne
import Derived.Test.YtjhdnapgdajllaaDoorWInv
import Derived.Test.YtjhdnapgdajllaaDoorWInvWords
import Derived.Test.YtjhdnapgdajllaaDoorWGuard
import Derived.Test.YtjhdnapgdajllaaDoorWNEv
import Derived.Test.YtjhdnapgdajllaaDoorWMore
import Derived.Test.YtjhdnapgdajllaaDoorSetSpecW
namespace Go.Proofs.YtjhdnapgdajllaaDoor.SetExistsW
open Go.RowKit Go.Proofs.YtjhdnapgdajllaaDoorW.PrintWords Go.Proofs.YtjhdnapgdajllaaDoorW.PrintLast Go.Proofs.YtjhdnapgdajllaaDoorW.PrintMore
attribute [local go_sem] max2_int min2_int max_two min_two max_three min_three max_four min_four   -- for this text's walks alone
set_option linter.unusedVariables false
set_option linter.unusedSimpArgs false



open _root_.Go.Proofs.YtjhdnapgdajllaaDoor.SetW _root_.Go.Proofs.YtjhdnapgdajllaaDoor.SetSpecW
set_option maxHeartbeats 4000000 in
theorem SetExists_walk (A : Option Addr) (c : Nat) (acts : List (Int × Int)) (n : Nat) (w : World) (hA : ActsAt w A acts) (hac : acts.length ≤ c) (hF : Formed acts) (hl : acts.length ≤ 9000) (hn : n < top64) :
    Calls Tryd.prog 28 #[.slice A acts.length c, .int .u64 (n : Int)] w fun e w' => e = .returned (.bool (decide (n ∈ actsL [] acts))) ∧ Below w.heap.size w w' := by
  have HS := Aside0.mk (set_make A c acts w hA hac hF hl)
  have HN := Aside0.mk (show n + 2048 ≤ 18446744073709551616 by unfold top64 at hn; omega)
  clear hA hac hF hl hn
  go_enter Tryd.func28, Tryd.ntmps28
  go_wp2_with fail
  refine HS.out.mono ?_
  rintro e w3 ⟨SS, t, rfl, hS3, hss, hx, hb3, he⟩
  have hq : inT n t = decide (n ∈ actsL [] acts) := by
    have := hS3.rep.isIn n
    cases h : inT n t with
    | true => exact (decide_eq_true (this.1 h)).symm
    | false => exact (decide_eq_false (fun hm => by rw [this.2 hm] at h; exact absurd h (by simp))).symm
  have HC := Aside0.mk (Exists_calls t SS _ _ false n w3 hS3.tr hS3.rep.fit hS3.ss HN.out)
  have H3 := Aside0.mk (And.intro hb3 hq)
  clear hS3 hss hx hb3 he hq
  go_wp2_with fail
  refine HC.out.mono ?_
  rintro e w4 ⟨rfl, rfl⟩
  go_wp2_with fail
  go_ret
  exact ⟨by rw [← H3.out.2]; rfl, H3.out.1⟩

end Go.Proofs.YtjhdnapgdajllaaDoor.SetExistsW
