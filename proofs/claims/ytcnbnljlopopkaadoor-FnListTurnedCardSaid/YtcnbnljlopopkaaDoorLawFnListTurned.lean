/- FnListTurned: whatever the arguments, the law returns true. -/
import Derived.Test.YtcnbnljlopopkaaDoorRows
import Derived.Test.YtcnbnljlopopkaaDoorPFnListTurnedr
import Derived.Test.YtcnbnljlopopkaaDoorPureFnListTurned
import Derived.WalkKit
import Derived.ProofKit
import Derived.OpenShut
import Derived.ShutString
import Derived.ChangeOld
import Derived.Below
import Derived.SizedLaws
import Derived.Handed
import Derived.Lay
import Derived.LaidHandle
import Derived.MakeChecks
import Derived.Test.YtcnbnljlopopkaaDoorCards
import Derived.Test.YtcnbnljlopopkaaDoorTie
import Derived.SevenTiedAt
import Derived.Stop.LaidErr
import Derived.LaidLaws
import Derived.Lib.LaidTab
import Derived.Shelf.Spec.TrailingZeros
import Derived.Test.YtcnbnljlopopkaaDoorWSized
namespace Go.Proofs.YtcnbnljlopopkaaDoor.fnListTurned
open Go.ChangeShapes Go.WideShapes Go.ChangeAt Go.RowKit
open Go.ChangeMaps (open_string shut_string)
set_option linter.unusedVariables false
theorem own : ownKnob Tryd.prog.godebug = none := by kernel_rfl
theorem laidOut : laidOutB Tryd.prog = true := by kernel_rfl
theorem laid_met (os : Os) (args : Array Value) : laidMetH Tryd.prog Rows.fnListTurnedRow.laid ((World.laidAll Tryd.prog os Rows.fnListTurnedRow.laid).forCall (fun _ _ => 0) ⟨#[], args, []⟩).memory :=
  (Go.MakeChecks.laidMetH_plain _ _ _ (by kernel_rfl)).symm ▸ laidMet_laidAll args (by kernel_rfl) (by kernel_rfl)
theorem star_ : "*" ++ "errors.errorString" = "*errors.errorString" := by decide
theorem row_ptr (u : TypeId) (h : Tryd.prog.typeName? 3 u = some "*errors.errorString") : u = 131 :=
  typeName_ptr_named (nm := "errors.errorString") (by rw [star_]; kernel_rfl) (by kernel_rfl) (by decide) u (by rw [star_]; exact h)
theorem laid_cells (W : World) (h : laidMetH Tryd.prog Rows.fnListTurnedRow.laid W) : ∃ a0 a1, W.cell? ⟨0, 0, none⟩ = some (.iface 131 (.pointer (some a0))) ∧ W.cell? ⟨1, 0, none⟩ = some (.iface 131 (.pointer (some a1))) ∧ (∃ v, W.cell? a0 = some v) ∧ (∃ v, W.cell? a1 = some v) := by
  have h0 : laidMet Tryd.prog Rows.fnListTurnedRow.laid W := (Go.MakeChecks.laidMetH_plain _ _ _ (by kernel_rfl)) ▸ h
  obtain ⟨a0, _, v0, c0, _⟩ := laid_sentinel h0 (show Tryd.prog.globalNamed "pub-tokenroad/pub/natsserver/server/gsl.ErrInvalidSubject" = some 0 by kernel_rfl) (show (Tryd.prog.globals[0]?).map (·.type) = some 72 by kernel_rfl) Tryd.underlying72 row_ptr Tryd.underlying131 Tryd.underlying148 rfl rfl Tryd.underlying9 (by kernel_rfl) (by kernel_rfl)
  have h1 := h0.tail
  obtain ⟨a1, _, v1, c1, _⟩ := laid_sentinel h1 (show Tryd.prog.globalNamed "pub-tokenroad/pub/natsserver/server/gsl.ErrNotFound" = some 1 by kernel_rfl) (show (Tryd.prog.globals[1]?).map (·.type) = some 72 by kernel_rfl) Tryd.underlying72 row_ptr Tryd.underlying131 Tryd.underlying148 rfl rfl Tryd.underlying9 (by kernel_rfl) (by kernel_rfl)
  exact ⟨a0, a1, (World.var?_cell (show Tryd.prog.globalNamed "pub-tokenroad/pub/natsserver/server/gsl.ErrInvalidSubject" = some 0 by kernel_rfl) v0 0).trans rfl, (World.var?_cell (show Tryd.prog.globalNamed "pub-tokenroad/pub/natsserver/server/gsl.ErrNotFound" = some 1 by kernel_rfl) v1 0).trans rfl, ⟨_, c0⟩, ⟨_, c1⟩⟩
set_option maxRecDepth 100000 in
theorem lifted (os : Os) (started : os.Started) (H : Type) (enc : TypeId × Value → H) :
    ReturnsInHanded {} Tryd.checked os 6 .any (fun w args => (Rows.fnListTurnedSpec.pre enc Tryd.prog Tryd.f6 [] false w args ∧ laidMetH Tryd.prog Rows.fnListTurnedRow.laid w) ∧ sizedMet enc Tryd.prog Tryd.f6 (OpenSpec.ofChange Rows.fnListTurnedSpec) false w args) (Rows.fnListTurnedSpec.post enc Tryd.prog Tryd.f6 false true false false) := by
  refine returnsInHanded_of_change_and (C := Tryd.checked) (X := fun w _ => laidMetH Tryd.prog Rows.fnListTurnedRow.laid w) (fun _ _ _ hh h => h.of_heap hh) own started (by kernel_rfl) Tryd.func6
    (ChangeSpec.witness_at (enc := enc) (C := Tryd.checked) (os := os) (X := fun w _ => laidMetH Tryd.prog Rows.fnListTurnedRow.laid w) false (World.laidAll Tryd.prog os Rows.fnListTurnedRow.laid) #[.slice none 0 0, .int .i64 0, .string ByteArray.empty] 8 (World.laidAll_os _ _ _) (by kernel_rfl) (by kernel_rfl) (by kernel_rfl) (by kernel_rfl) (by kernel_rfl) (laid_met os _)) ?_
  intro W base args ds gs before hval0 hW hcnd hsz0 hlaid _
  have hsz : (DataW.weightsEach Tryd.prog (Tryd.f6.params.toList ++ Rows.fnListTurnedSpec.plain.varTypes Tryd.prog) (ds ++ gs)).all (· ≤ reachBytes) = true := hsz0
  have hval : ∀ (j : Nat) t v, Tryd.f6.params[j]? = some t → args[j]? = some v → Value.okWide Tryd.prog W .any base t v := hval0
  have hW' := hW
  obtain ⟨p, q, hA0, hV, rfl, hfz, hnd⟩ := hW
  have hA : DataW.TrodAll enc Tryd.prog W 0 (fun _ => true) true Tryd.f6.params.toList args.toList ds p := hA0
  rw [Tryd.params6] at hA hval hsz
  obtain ⟨v0, vs0, d0, ds0, p0, q0, hargs, rfl, rfl, h0, r0⟩ := trodAll_cons hA
  obtain ⟨v1, vs1, d1, ds1, p1, q1, rfl, rfl, rfl, h1, r1⟩ := trodAll_cons r0
  obtain ⟨v2, vs2, d2, ds2, p2, q2, rfl, rfl, rfl, h2, r2⟩ := trodAll_cons r1
  obtain ⟨rfl, rfl, rfl⟩ := trodAll_nil r2
  obtain rfl : args = #[v0, v1, v2] := by cases args; simp_all
  obtain ⟨rfl, rfl⟩ := trodVars_none hV
  obtain ⟨a0, len0, cap0, rfl⟩ := okWide_slice Tryd.underlying22 (hval 0 22 v0 rfl rfl)
  have k0 := h0
  have lt0 : ∀ x ∈ p0, x.block < W.heap.size := by obtain ⟨m, hm⟩ := k0; exact DataW.trod_lt m _ _ _ hm
  obtain ⟨l0, rfl, hC0, hc0, hm0, ok0⟩ := Go.Proofs.YtcnbnljlopopkaaDoor.Opens.Opens.arg PFnListTurned.opensA0 h0
  obtain ⟨a1, rfl, rfl, rfl, w1⟩ := open_int Tryd.underlying3 (hval 1 3 v1 rfl rfl) h1
  obtain ⟨a2, rfl, rfl, rfl, y2⟩ := open_string Tryd.underlying9 (hval 2 9 v2 rfl rfl) h2
  have w2 : a2.size ≤ 140737488351232 := by
    have z := sized_string hsz (j := 2) (t := 9) rfl rfl
    rw [Array.length_toList] at z
    exact z
  clear hA0 hval0 hsz0 hsz
  have hp_ := Pure.FnListTurned l0 a1 a2 hm0 ok0 w1 w2
  have hE_ : Go.Proofs.YtcnbnljlopopkaaDoor.LsC.GLaid W := by
    obtain ⟨a0_, a1_, C0, C1, D0, D1⟩ := laid_cells W hlaid
    exact ⟨⟨_, _, C0⟩, ⟨_, _, C1⟩⟩
  refine (PFnListTurned.laws_FnListTurned.calls _ _ l0 a1 a2 true W hC0 hc0 hp_ hE_).mono fun e W' ⟨he, bel⟩ => ?_
  subst he
  exact ⟨_, rfl, _, _, _, [], _, [], hW', trodAll_mk1 (shut_bool Tryd.underlying4 _), (trodAll_cons_mk (Below.trod laidOut (by kernel_rfl) (of_decide_eq_true (by kernel_rfl)) k0 bel lt0) (trodAll_cons_mk (shut_int Tryd.underlying3 w1) (trodAll_cons_mk (shut_string Tryd.underlying9 y2) trodAll_mk0))), rfl, bel.frame _, fun h => by cases h⟩
theorem over : Rows.fnListTurnedRow.holds Tryd.pinned (OpenSpec.ofChange Rows.fnListTurnedSpec) :=
  OpenClaim.holds_of_wide 6 Tryd.f6 rfl rfl rfl rfl rfl rfl rfl ⟨rfl, rfl, rfl, rfl, rfl⟩ rfl rfl rfl rfl rfl (by kernel_rfl) Tryd.func6 (by kernel_rfl)
    (of_decide_eq_true (by kernel_rfl)) (by unfold Func.isWrapper; first | (rw [if_pos (by decide +kernel)]; kernel_rfl) | (rw [if_neg (by decide +kernel)]; exact ⟨rfl, rfl⟩))
    (fun os started H enc _ => lifted os started H enc)
theorem proved : Rows.FnListTurnedSaid := over
#print axioms proved
end Go.Proofs.YtcnbnljlopopkaaDoor.fnListTurned
namespace Go.Proofs.YtcnbnljlopopkaaDoor
theorem fnListTurned_card : Rows.FnListTurnedCardSaid :=
  Claim7.holds_tied_plain_at .later [] [.sentinel, .sentinel] true (true, "37ee2c2a363b7d37bbdb34129809d01b6a8eaa3f6228e86c2c8912a0652f9e3d") false
    fnListTurned.proved (fun _ h => by cases h) (by kernel_rfl) (fun _ h => by cases h) fnListTurned_row_tie rfl ⟨rfl, rfl⟩ (by kernel_rfl) rfl
    (fun f fn hf hfn => by
      obtain rfl : f = 6 := Option.some.inj ((show Tryd.prog.funcNamed "pub-tokenroad/laws.FnListTurned" = some 6 by kernel_rfl).symm.trans hf) |>.symm
      obtain rfl : fn = Tryd.f6 := (Option.some.inj (Tryd.func6.symm.trans hfn)).symm
      refine ⟨by kernel_rfl, fun j t ht => ?_⟩
      rw [Tryd.params6] at ht
      rcases j with _ | j
      · have h0 : t = 22 := by simpa using ht.symm
        subst h0
        exact (show Tryd.prog.wantsStandIn 22 = false by kernel_rfl)
      rcases j with _ | j
      · have h1 : t = 3 := by simpa using ht.symm
        subst h1
        exact (show Tryd.prog.wantsStandIn 3 = false by kernel_rfl)
      rcases j with _ | j
      · have h2 : t = 9 := by simpa using ht.symm
        subst h2
        exact (show Tryd.prog.wantsStandIn 9 = false by kernel_rfl)
      · simp at ht)
    (by kernel_rfl)
/-- The tied card, under a short name, for the claim. -/
theorem fnListTurned_holds : Rows.FnListTurnedCardSaid := fnListTurned_card
#print axioms fnListTurned_holds
end Go.Proofs.YtcnbnljlopopkaaDoor
