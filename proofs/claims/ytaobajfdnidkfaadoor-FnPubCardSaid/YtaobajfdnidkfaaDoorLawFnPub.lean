-- Written by hprint.py (this session's program, over the kit's printing program, with this session's own contracts in it). Not trusted: Lean checks it.
import Derived.Test.YtaobajfdnidkfaaDoorRows
import Derived.Test.YtaobajfdnidkfaaDoorPFnPubx5
import Derived.Test.YtaobajfdnidkfaaDoorPureFnPub
import Derived.WalkKit
import Derived.ProofKit
import Derived.OpenShut
import Derived.ShutString
import Derived.ChangeOld
import Derived.Below
import Derived.SizedLaws
import Derived.Handed
import Derived.Lay
import Derived.LaidHandle
import Derived.MakeChecks
import Derived.Test.YtaobajfdnidkfaaDoorCards
import Derived.Test.YtaobajfdnidkfaaDoorTie
import Derived.SevenTiedAt
import Derived.Stop.LaidErr
import Derived.LaidLaws
import Derived.Test.YtaobajfdnidkfaaDoorWSized
namespace Go.Proofs.YtaobajfdnidkfaaDoor.fnPub
open Go.ChangeShapes Go.WideShapes Go.ChangeAt Go.RowKit
open Go.ChangeMaps (open_string shut_string)
set_option linter.unusedVariables false
theorem own : ownKnob Tryd.prog.godebug = none := by kernel_rfl
theorem laidOut : laidOutB Tryd.prog = true := by kernel_rfl
def IsRow (k : IntKind) (w : World) (a : Option Addr) (len cap : Nat) (zs : List Int) : Prop :=
  (a = none ∧ len = 0 ∧ cap = 0 ∧ zs = []) ∨
  ∃ x, a = some x ∧ len ≤ cap ∧ cap ≤ maxLen ∧ zs.length = cap ∧ (∀ i, i < zs.length → w.cell? (x.add i) = some (.int k (zs.getD i 0))) ∧ ∀ n ∈ zs, (Lit.int k n).wf = true
theorem laid_met (os : Os) (args : Array Value) : laidMetH Tryd.prog Rows.fnPubRow.laid ((World.laidAll Tryd.prog os Rows.fnPubRow.laid).forCall (fun _ _ => 0) ⟨#[], args, []⟩).memory :=
  (Go.MakeChecks.laidMetH_plain _ _ _ (by kernel_rfl)).symm ▸ laidMet_laidAll args (by kernel_rfl) (by kernel_rfl)
theorem star_ : "*" ++ "errors.errorString" = "*errors.errorString" := by decide
theorem row_ptr (u : TypeId) (h : Tryd.prog.typeName? 3 u = some "*errors.errorString") : u = 56 :=
  typeName_ptr_named (nm := "errors.errorString") (by rw [star_]; kernel_rfl) (by kernel_rfl) (by decide) u (by rw [star_]; exact h)
theorem laid_cells (W : World) (h : laidMetH Tryd.prog Rows.fnPubRow.laid W) : ∃ a0, W.cell? ⟨0, 0, none⟩ = some (.iface 56 (.pointer (some a0))) ∧ (∃ v, W.cell? a0 = some v) := by
  have h0 : laidMet Tryd.prog Rows.fnPubRow.laid W := (Go.MakeChecks.laidMetH_plain _ _ _ (by kernel_rfl)) ▸ h
  obtain ⟨a0, _, v0, c0, _⟩ := laid_sentinel h0 (show Tryd.prog.globalNamed "pub-tokenroad/pub/natsserver/server.ErrMaxPayload" = some 0 by kernel_rfl) (show (Tryd.prog.globals[0]?).map (·.type) = some 38 by kernel_rfl) Tryd.underlying38 row_ptr Tryd.underlying56 Tryd.underlying58 rfl rfl Tryd.underlying9 (by kernel_rfl) (by kernel_rfl)
  exact ⟨a0, (World.var?_cell (show Tryd.prog.globalNamed "pub-tokenroad/pub/natsserver/server.ErrMaxPayload" = some 0 by kernel_rfl) v0 0).trans rfl, ⟨_, c0⟩⟩
set_option maxRecDepth 100000 in
theorem lifted (os : Os) (started : os.Started) (H : Type) (enc : TypeId × Value → H) :
    ReturnsInHanded {} Tryd.checked os 3 .any (fun w args => (Rows.fnPubSpec.pre enc Tryd.prog Tryd.f3 [] false w args ∧ laidMetH Tryd.prog Rows.fnPubRow.laid w) ∧ sizedMet enc Tryd.prog Tryd.f3 (OpenSpec.ofChange Rows.fnPubSpec) false w args) (Rows.fnPubSpec.post enc Tryd.prog Tryd.f3 false true false false) := by
  refine returnsInHanded_of_change_and (C := Tryd.checked) (X := fun w _ => laidMetH Tryd.prog Rows.fnPubRow.laid w) (fun _ _ _ hh h => h.of_heap hh) own started (by kernel_rfl) Tryd.func3
    (ChangeSpec.witness_at (enc := enc) (C := Tryd.checked) (os := os) (X := fun w _ => laidMetH Tryd.prog Rows.fnPubRow.laid w) false (World.laidAll Tryd.prog os Rows.fnPubRow.laid) #[.slice none 0 0, .int .i64 0] 8 (World.laidAll_os _ _ _) (by kernel_rfl) (by kernel_rfl) (by kernel_rfl) (by kernel_rfl) (by kernel_rfl) (laid_met os _)) ?_
  intro W base args ds gs before hval0 hW hcnd hsz0 hlaid _
  have hsz : (DataW.weightsEach Tryd.prog (Tryd.f3.params.toList ++ Rows.fnPubSpec.plain.varTypes Tryd.prog) (ds ++ gs)).all (· ≤ reachBytes) = true := hsz0
  have hval : ∀ (j : Nat) t v, Tryd.f3.params[j]? = some t → args[j]? = some v → Value.okWide Tryd.prog W .any base t v := hval0
  have hW' := hW
  obtain ⟨p, q, hA0, hV, rfl, hfz, hnd⟩ := hW
  have hA : DataW.TrodAll enc Tryd.prog W 0 (fun _ => true) true Tryd.f3.params.toList args.toList ds p := hA0
  rw [Tryd.params3] at hA hval hsz
  obtain ⟨v0, vs0, d0, ds0, p0, q0, hargs, rfl, rfl, h0, r0⟩ := trodAll_cons hA
  obtain ⟨v1, vs1, d1, ds1, p1, q1, rfl, rfl, rfl, h1, r1⟩ := trodAll_cons r0
  obtain ⟨rfl, rfl, rfl⟩ := trodAll_nil r1
  obtain rfl : args = #[v0, v1] := by cases args; simp_all
  obtain ⟨rfl, rfl⟩ := trodVars_none hV
  obtain ⟨a0, len0, cap0, rfl⟩ := okWide_slice Tryd.underlying22 (hval 0 22 v0 rfl rfl)
  have k0 := h0
  have lt0 : ∀ x ∈ p0, x.block < W.heap.size := by obtain ⟨m, hm⟩ := k0; exact DataW.trod_lt m _ _ _ hm
  obtain ⟨z0, w0⟩ : ∃ zs, IsRow .u8 W a0 len0 cap0 zs := by
    obtain ⟨fuel, hf⟩ := h0
    rcases open_ints Tryd.underlying22 Tryd.underlying5 (by kernel_rfl) hf with ⟨hcs, _⟩ | ⟨x, l, c, zs, hcs, _, hl, hm, hz, _, hcell, hwz⟩
    · simp [Value.cells] at hcs
      obtain ⟨rfl, rfl, rfl⟩ := hcs
      exact ⟨[], .inl ⟨rfl, rfl, rfl, rfl⟩⟩
    · simp [Value.cells] at hcs
      obtain ⟨rfl, rfl, rfl⟩ := hcs
      exact ⟨zs, .inr ⟨_, rfl, hl, hm, by simpa using hz, hcell, hwz⟩⟩
  have y0 : len0 * 1 ≤ 140737488351232 := Go.Proofs.YtaobajfdnidkfaaDoorW.PrintWords.sized_ints hsz (j := 0) (t := 22) rfl rfl Tryd.underlying22 Tryd.underlying5 (by kernel_rfl) (by kernel_rfl) h0
  obtain ⟨a1, rfl, rfl, rfl, w1⟩ := open_int Tryd.underlying3 (hval 1 3 v1 rfl rfl) h1
  clear hA0 hval0 hsz0 hsz
  have hE_ : Go.Proofs.YtaobajfdnidkfaaDoor.PFnPub.MaxOk W := by
    obtain ⟨a0_, C0, D0⟩ := laid_cells W hlaid
    exact ⟨_, C0, D0⟩
  refine (PFnPub.laws_FnPub.walk Pure.FnPub a0 len0 cap0 z0 a1 W w0 y0 w1 hE_).mono fun e W' ⟨he, bel⟩ => ?_
  subst he
  exact ⟨_, rfl, _, _, _, [], _, [], hW', trodAll_mk1 (shut_bool Tryd.underlying4 _), (trodAll_cons_mk (Below.trod laidOut (by kernel_rfl) (of_decide_eq_true (by kernel_rfl)) k0 bel lt0) (trodAll_cons_mk (shut_int Tryd.underlying3 w1) trodAll_mk0)), rfl, bel.frame _, fun h => by cases h⟩
theorem over : Rows.fnPubRow.holds Tryd.pinned (OpenSpec.ofChange Rows.fnPubSpec) :=
  OpenClaim.holds_of_wide 3 Tryd.f3 rfl rfl rfl rfl rfl rfl rfl ⟨rfl, rfl, rfl, rfl, rfl⟩ rfl rfl rfl rfl rfl (by kernel_rfl) Tryd.func3 (by kernel_rfl)
    (of_decide_eq_true (by kernel_rfl)) (by unfold Func.isWrapper; first | (rw [if_pos (by decide +kernel)]; kernel_rfl) | (rw [if_neg (by decide +kernel)]; exact ⟨rfl, rfl⟩))
    (fun os started H enc _ => lifted os started H enc)
theorem proved : Rows.FnPubSaid := over
#print axioms proved
end Go.Proofs.YtaobajfdnidkfaaDoor.fnPub
namespace Go.Proofs.YtaobajfdnidkfaaDoor
theorem fnPub_card : Rows.FnPubCardSaid :=
  Claim7.holds_tied_plain_at .later [] [.sentinel] true (true, "d1fa903dadb0e5a1ece81f7633ccaae314536023d083492ea8e05954cbb2ec18") true
    fnPub.proved (fun _ h => by cases h) (by kernel_rfl) (fun _ h => by cases h) fnPub_row_tie rfl ⟨rfl, rfl⟩ (by kernel_rfl) rfl
    (fun f fn hf hfn => by
      obtain rfl : f = 3 := Option.some.inj ((show Tryd.prog.funcNamed "pub-tokenroad/laws.FnPub" = some 3 by kernel_rfl).symm.trans hf) |>.symm
      obtain rfl : fn = Tryd.f3 := (Option.some.inj (Tryd.func3.symm.trans hfn)).symm
      refine ⟨by kernel_rfl, fun j t ht => ?_⟩
      rw [Tryd.params3] at ht
      rcases j with _ | j
      · have h0 : t = 22 := by simpa using ht.symm
        subst h0
        exact (show Tryd.prog.wantsStandIn 22 = false by kernel_rfl)
      rcases j with _ | j
      · have h1 : t = 3 := by simpa using ht.symm
        subst h1
        exact (show Tryd.prog.wantsStandIn 3 = false by kernel_rfl)
      · simp at ht)
    (by kernel_rfl)
/-- The tied card, under a short name, for the claim. -/
theorem fnPub_holds : Rows.FnPubCardSaid := fnPub_card
#print axioms fnPub_holds
end Go.Proofs.YtaobajfdnidkfaaDoor
