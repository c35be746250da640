-- Written by hprint.py (this session's program, over the kit's printing program, with this session's own contracts in it). Not trusted: Lean checks it.
import Derived.Test.YtaobajfdnidkfaaDoorRows
import Derived.Test.YtaobajfdnidkfaaDoorPFnPubBackx5
import Derived.Test.YtaobajfdnidkfaaDoorPureFnPubBack
import Derived.WalkKit
import Derived.ProofKit
import Derived.OpenShut
import Derived.ShutString
import Derived.ChangeOld
import Derived.Below
import Derived.SizedLaws
import Derived.Handed
import Derived.Lay
import Derived.LaidHandle
import Derived.MakeChecks
import Derived.Test.YtaobajfdnidkfaaDoorCards
import Derived.Test.YtaobajfdnidkfaaDoorTie
import Derived.SevenTiedAt
import Derived.Stop.LaidErr
import Derived.LaidLaws
namespace Go.Proofs.YtaobajfdnidkfaaDoor.fnPubBack
open Go.ChangeShapes Go.WideShapes Go.ChangeAt Go.RowKit
open Go.ChangeMaps (open_string shut_string)
set_option linter.unusedVariables false
theorem own : ownKnob Tryd.prog.godebug = none := by kernel_rfl
theorem laid_met (os : Os) (args : Array Value) : laidMetH Tryd.prog Rows.fnPubBackRow.laid ((World.laidAll Tryd.prog os Rows.fnPubBackRow.laid).forCall (fun _ _ => 0) ⟨#[], args, []⟩).memory :=
  (Go.MakeChecks.laidMetH_plain _ _ _ (by kernel_rfl)).symm ▸ laidMet_laidAll args (by kernel_rfl) (by kernel_rfl)
theorem star_ : "*" ++ "errors.errorString" = "*errors.errorString" := by decide
theorem row_ptr (u : TypeId) (h : Tryd.prog.typeName? 3 u = some "*errors.errorString") : u = 56 :=
  typeName_ptr_named (nm := "errors.errorString") (by rw [star_]; kernel_rfl) (by kernel_rfl) (by decide) u (by rw [star_]; exact h)
theorem laid_cells (W : World) (h : laidMetH Tryd.prog Rows.fnPubBackRow.laid W) : ∃ a0, W.cell? ⟨0, 0, none⟩ = some (.iface 56 (.pointer (some a0))) ∧ (∃ v, W.cell? a0 = some v) := by
  have h0 : laidMet Tryd.prog Rows.fnPubBackRow.laid W := (Go.MakeChecks.laidMetH_plain _ _ _ (by kernel_rfl)) ▸ h
  obtain ⟨a0, _, v0, c0, _⟩ := laid_sentinel h0 (show Tryd.prog.globalNamed "pub-tokenroad/pub/natsserver/server.ErrMaxPayload" = some 0 by kernel_rfl) (show (Tryd.prog.globals[0]?).map (·.type) = some 38 by kernel_rfl) Tryd.underlying38 row_ptr Tryd.underlying56 Tryd.underlying58 rfl rfl Tryd.underlying9 (by kernel_rfl) (by kernel_rfl)
  exact ⟨a0, (World.var?_cell (show Tryd.prog.globalNamed "pub-tokenroad/pub/natsserver/server.ErrMaxPayload" = some 0 by kernel_rfl) v0 0).trans rfl, ⟨_, c0⟩⟩
set_option maxRecDepth 100000 in
theorem lifted (os : Os) (started : os.Started) (H : Type) (enc : TypeId × Value → H) :
    ReturnsInHanded {} Tryd.checked os 4 .any (fun w args => (Rows.fnPubBackSpec.pre enc Tryd.prog Tryd.f4 [] false w args ∧ laidMetH Tryd.prog Rows.fnPubBackRow.laid w) ∧ sizedMet enc Tryd.prog Tryd.f4 (OpenSpec.ofChange Rows.fnPubBackSpec) false w args) (Rows.fnPubBackSpec.post enc Tryd.prog Tryd.f4 false true false false) := by
  refine returnsInHanded_of_change_and (C := Tryd.checked) (X := fun w _ => laidMetH Tryd.prog Rows.fnPubBackRow.laid w) (fun _ _ _ hh h => h.of_heap hh) own started (by kernel_rfl) Tryd.func4
    (ChangeSpec.witness_at (enc := enc) (C := Tryd.checked) (os := os) (X := fun w _ => laidMetH Tryd.prog Rows.fnPubBackRow.laid w) false (World.laidAll Tryd.prog os Rows.fnPubBackRow.laid) #[.string ByteArray.empty, .string ByteArray.empty, .int .i64 0, .int .u8 0] 8 (World.laidAll_os _ _ _) (by kernel_rfl) (by kernel_rfl) (by kernel_rfl) (by kernel_rfl) (by kernel_rfl) (laid_met os _)) ?_
  intro W base args ds gs before hval0 hW hcnd hsz0 hlaid _
  have hsz : (DataW.weightsEach Tryd.prog (Tryd.f4.params.toList ++ Rows.fnPubBackSpec.plain.varTypes Tryd.prog) (ds ++ gs)).all (· ≤ reachBytes) = true := hsz0
  have hval : ∀ (j : Nat) t v, Tryd.f4.params[j]? = some t → args[j]? = some v → Value.okWide Tryd.prog W .any base t v := hval0
  have hW' := hW
  obtain ⟨p, q, hA0, hV, rfl, hfz, hnd⟩ := hW
  have hA : DataW.TrodAll enc Tryd.prog W 0 (fun _ => true) true Tryd.f4.params.toList args.toList ds p := hA0
  rw [Tryd.params4] at hA hval hsz
  obtain ⟨v0, vs0, d0, ds0, p0, q0, hargs, rfl, rfl, h0, r0⟩ := trodAll_cons hA
  obtain ⟨v1, vs1, d1, ds1, p1, q1, rfl, rfl, rfl, h1, r1⟩ := trodAll_cons r0
  obtain ⟨v2, vs2, d2, ds2, p2, q2, rfl, rfl, rfl, h2, r2⟩ := trodAll_cons r1
  obtain ⟨v3, vs3, d3, ds3, p3, q3, rfl, rfl, rfl, h3, r3⟩ := trodAll_cons r2
  obtain ⟨rfl, rfl, rfl⟩ := trodAll_nil r3
  obtain rfl : args = #[v0, v1, v2, v3] := by cases args; simp_all
  obtain ⟨rfl, rfl⟩ := trodVars_none hV
  obtain ⟨a0, rfl, rfl, rfl, y0⟩ := open_string Tryd.underlying9 (hval 0 9 v0 rfl rfl) h0
  have w0 : a0.size ≤ 140737488351232 := by
    have z := sized_string hsz (j := 0) (t := 9) rfl rfl
    rw [Array.length_toList] at z
    exact z
  obtain ⟨a1, rfl, rfl, rfl, y1⟩ := open_string Tryd.underlying9 (hval 1 9 v1 rfl rfl) h1
  have w1 : a1.size ≤ 140737488351232 := by
    have z := sized_string hsz (j := 1) (t := 9) rfl rfl
    rw [Array.length_toList] at z
    exact z
  obtain ⟨a2, rfl, rfl, rfl, w2⟩ := open_int Tryd.underlying3 (hval 2 3 v2 rfl rfl) h2
  obtain ⟨a3, rfl, rfl, rfl, w3⟩ := open_int Tryd.underlying5 (hval 3 5 v3 rfl rfl) h3
  clear hA0 hval0 hsz0 hsz
  have hE_ : Go.Proofs.YtaobajfdnidkfaaDoor.PFnPubBack.MaxOk W := by
    obtain ⟨a0_, C0, D0⟩ := laid_cells W hlaid
    exact ⟨_, C0, D0⟩
  refine (PFnPubBack.laws_FnPubBack.walk Pure.FnPubBack a0 a1 a2 a3 W w0 w1 w2 w3 hE_).mono fun e W' ⟨he, bel⟩ => ?_
  subst he
  exact ⟨_, rfl, _, _, _, [], _, [], hW', trodAll_mk1 (shut_bool Tryd.underlying4 _), (trodAll_cons_mk (shut_string Tryd.underlying9 y0) (trodAll_cons_mk (shut_string Tryd.underlying9 y1) (trodAll_cons_mk (shut_int Tryd.underlying3 w2) (trodAll_cons_mk (shut_int Tryd.underlying5 w3) trodAll_mk0)))), rfl, bel.frame _, fun h => by cases h⟩
theorem over : Rows.fnPubBackRow.holds Tryd.pinned (OpenSpec.ofChange Rows.fnPubBackSpec) :=
  OpenClaim.holds_of_wide 4 Tryd.f4 rfl rfl rfl rfl rfl rfl rfl ⟨rfl, rfl, rfl, rfl, rfl⟩ rfl rfl rfl rfl rfl (by kernel_rfl) Tryd.func4 (by kernel_rfl)
    (of_decide_eq_true (by kernel_rfl)) (by unfold Func.isWrapper; first | (rw [if_pos (by decide +kernel)]; kernel_rfl) | (rw [if_neg (by decide +kernel)]; exact ⟨rfl, rfl⟩))
    (fun os started H enc _ => lifted os started H enc)
theorem proved : Rows.FnPubBackSaid := over
#print axioms proved
end Go.Proofs.YtaobajfdnidkfaaDoor.fnPubBack
namespace Go.Proofs.YtaobajfdnidkfaaDoor
theorem fnPubBack_card : Rows.FnPubBackCardSaid :=
  Claim7.holds_tied_plain_at .later [] [.sentinel] true (true, "d1fa903dadb0e5a1ece81f7633ccaae314536023d083492ea8e05954cbb2ec18") true
    fnPubBack.proved (fun _ h => by cases h) (by kernel_rfl) (fun _ h => by cases h) fnPubBack_row_tie rfl ⟨rfl, rfl⟩ (by kernel_rfl) rfl
    (fun f fn hf hfn => by
      obtain rfl : f = 4 := Option.some.inj ((show Tryd.prog.funcNamed "pub-tokenroad/laws.FnPubBack" = some 4 by kernel_rfl).symm.trans hf) |>.symm
      obtain rfl : fn = Tryd.f4 := (Option.some.inj (Tryd.func4.symm.trans hfn)).symm
      refine ⟨by kernel_rfl, fun j t ht => ?_⟩
      rw [Tryd.params4] at ht
      rcases j with _ | j
      · have h0 : t = 9 := by simpa using ht.symm
        subst h0
        exact (show Tryd.prog.wantsStandIn 9 = false by kernel_rfl)
      rcases j with _ | j
      · have h1 : t = 9 := by simpa using ht.symm
        subst h1
        exact (show Tryd.prog.wantsStandIn 9 = false by kernel_rfl)
      rcases j with _ | j
      · have h2 : t = 3 := by simpa using ht.symm
        subst h2
        exact (show Tryd.prog.wantsStandIn 3 = false by kernel_rfl)
      rcases j with _ | j
      · have h3 : t = 5 := by simpa using ht.symm
        subst h3
        exact (show Tryd.prog.wantsStandIn 5 = false by kernel_rfl)
      · simp at ht)
    (by kernel_rfl)
/-- The tied card, under a short name, for the claim. -/
theorem fnPubBack_holds : Rows.FnPubBackCardSaid := fnPubBack_card
#print axioms fnPubBack_holds
end Go.Proofs.YtaobajfdnidkfaaDoor
