-- Written by hprint.py (this session's program, over the kit's printing program, with this session's own contracts in it). Not trusted: Lean checks it.
import Derived.Test.YtmfblbjklmgncaaDoorRows
import Derived.Test.YtmfblbjklmgncaaDoorPFnFilterSubjectx4
import Derived.Test.YtmfblbjklmgncaaDoorPureFnFilterSubject
import Derived.WalkKit
import Derived.ProofKit
import Derived.OpenShut
import Derived.ShutString
import Derived.ChangeOld
import Derived.Below
import Derived.SizedLaws
import Derived.Handed
import Derived.Lay
import Derived.LaidHandle
import Derived.MakeChecks
import Derived.Test.YtmfblbjklmgncaaDoorCards
import Derived.Test.YtmfblbjklmgncaaDoorTie
import Derived.SevenTiedAt
namespace Go.Proofs.YtmfblbjklmgncaaDoor.fnFilterSubject
open Go.ChangeShapes Go.WideShapes Go.ChangeAt Go.RowKit
open Go.ChangeMaps (open_string shut_string)
set_option linter.unusedVariables false
theorem own : ownKnob Tryd.prog.godebug = none := by kernel_rfl
theorem laid_met (os : Os) (args : Array Value) : laidMetH Tryd.prog Rows.fnFilterSubjectRow.laid ((World.laidAll Tryd.prog os Rows.fnFilterSubjectRow.laid).forCall (fun _ _ => 0) ⟨#[], args, []⟩).memory :=
  (Go.MakeChecks.laidMetH_plain _ _ _ (by kernel_rfl)).symm ▸ laidMet_laidAll args (by kernel_rfl) (by kernel_rfl)
set_option maxRecDepth 100000 in
theorem lifted (os : Os) (started : os.Started) (H : Type) (enc : TypeId × Value → H) :
    ReturnsInHanded {} Tryd.checked os 8 .any (fun w args => (Rows.fnFilterSubjectSpec.pre enc Tryd.prog Tryd.f8 [] false w args ∧ laidMetH Tryd.prog Rows.fnFilterSubjectRow.laid w) ∧ sizedMet enc Tryd.prog Tryd.f8 (OpenSpec.ofChange Rows.fnFilterSubjectSpec) false w args) (Rows.fnFilterSubjectSpec.post enc Tryd.prog Tryd.f8 false true false false) := by
  refine returnsInHanded_of_change_and (C := Tryd.checked) (X := fun w _ => laidMetH Tryd.prog Rows.fnFilterSubjectRow.laid w) (fun _ _ _ hh h => h.of_heap hh) own started (by kernel_rfl) Tryd.func8
    (ChangeSpec.witness_at (enc := enc) (C := Tryd.checked) (os := os) (X := fun w _ => laidMetH Tryd.prog Rows.fnFilterSubjectRow.laid w) false (World.laidAll Tryd.prog os Rows.fnFilterSubjectRow.laid) #[.string ByteArray.empty] 8 (World.laidAll_os _ _ _) (by kernel_rfl) (by kernel_rfl) (by kernel_rfl) (by kernel_rfl) (by kernel_rfl) (laid_met os _)) ?_
  intro W base args ds gs before hval0 hW hcnd hsz0 hlaid _
  have hsz : (DataW.weightsEach Tryd.prog (Tryd.f8.params.toList ++ Rows.fnFilterSubjectSpec.plain.varTypes Tryd.prog) (ds ++ gs)).all (· ≤ reachBytes) = true := hsz0
  have hval : ∀ (j : Nat) t v, Tryd.f8.params[j]? = some t → args[j]? = some v → Value.okWide Tryd.prog W .any base t v := hval0
  have hW' := hW
  obtain ⟨p, q, hA0, hV, rfl, hfz, hnd⟩ := hW
  have hA : DataW.TrodAll enc Tryd.prog W 0 (fun _ => true) true Tryd.f8.params.toList args.toList ds p := hA0
  rw [Tryd.params8] at hA hval hsz
  obtain ⟨v0, vs0, d0, ds0, p0, q0, hargs, rfl, rfl, h0, r0⟩ := trodAll_cons hA
  obtain ⟨rfl, rfl, rfl⟩ := trodAll_nil r0
  obtain rfl : args = #[v0] := by cases args; simp_all
  obtain ⟨rfl, rfl⟩ := trodVars_none hV
  obtain ⟨a0, rfl, rfl, rfl, y0⟩ := open_string Tryd.underlying9 (hval 0 9 v0 rfl rfl) h0
  have w0 : a0.size ≤ 140737488351232 := by
    have z := sized_string hsz (j := 0) (t := 9) rfl rfl
    rw [Array.length_toList] at z
    exact z
  clear hA0 hval0 hsz0 hsz
  refine (PFnFilterSubject.laws_FnFilterSubject.walk Pure.FnFilterSubject a0 W w0).mono fun e W' ⟨he, bel⟩ => ?_
  subst he
  exact ⟨_, rfl, _, _, _, [], _, [], hW', trodAll_mk1 (shut_bool Tryd.underlying4 _), (trodAll_cons_mk (shut_string Tryd.underlying9 y0) trodAll_mk0), rfl, bel.frame _, fun h => by cases h⟩
theorem over : Rows.fnFilterSubjectRow.holds Tryd.pinned (OpenSpec.ofChange Rows.fnFilterSubjectSpec) :=
  OpenClaim.holds_of_wide 8 Tryd.f8 rfl rfl rfl rfl rfl rfl rfl ⟨rfl, rfl, rfl, rfl, rfl⟩ rfl rfl rfl rfl rfl (by kernel_rfl) Tryd.func8 (by kernel_rfl)
    (of_decide_eq_true (by kernel_rfl)) (by unfold Func.isWrapper; first | (rw [if_pos (by decide +kernel)]; kernel_rfl) | (rw [if_neg (by decide +kernel)]; exact ⟨rfl, rfl⟩))
    (fun os started H enc _ => lifted os started H enc)
theorem proved : Rows.FnFilterSubjectSaid := over
#print axioms proved
end Go.Proofs.YtmfblbjklmgncaaDoor.fnFilterSubject
namespace Go.Proofs.YtmfblbjklmgncaaDoor
theorem fnFilterSubject_card : Rows.FnFilterSubjectCardSaid :=
  Claim7.holds_tied_plain_at .later [] [.sentinel] true (true, "989a94decb4c98aec9e7ed30ec7b013ce08b8b4ec11de40fa99912b2e1dd504d") false
    fnFilterSubject.proved (fun _ h => by cases h) (by kernel_rfl) (fun _ h => by cases h) fnFilterSubject_row_tie rfl ⟨rfl, rfl⟩ (by kernel_rfl) rfl
    (fun f fn hf hfn => by
      obtain rfl : f = 8 := Option.some.inj ((show Tryd.prog.funcNamed "pub-tokenroad/laws.FnFilterSubject" = some 8 by kernel_rfl).symm.trans hf) |>.symm
      obtain rfl : fn = Tryd.f8 := (Option.some.inj (Tryd.func8.symm.trans hfn)).symm
      refine ⟨by kernel_rfl, fun j t ht => ?_⟩
      rw [Tryd.params8] at ht
      rcases j with _ | j
      · have h0 : t = 9 := by simpa using ht.symm
        subst h0
        exact (show Tryd.prog.wantsStandIn 9 = false by kernel_rfl)
      · simp at ht)
    (by kernel_rfl)
/-- The tied card, under a short name, for the claim. -/
theorem fnFilterSubject_holds : Rows.FnFilterSubjectCardSaid := fnFilterSubject_card
#print axioms fnFilterSubject_holds
end Go.Proofs.YtmfblbjklmgncaaDoor
