/- FnSetDecode: whatever the arguments, the law returns true. -/
import Derived.Test.YtjhdnapgdajllaaDoorRows
import Derived.Test.YtjhdnapgdajllaaDoorPFnSetDecoder
import Derived.Test.YtjhdnapgdajllaaDoorPureFnSetDecode
import Derived.WalkKit
import Derived.ProofKit
import Derived.OpenShut
import Derived.ShutString
import Derived.ChangeOld
import Derived.Below
import Derived.SizedLaws
import Derived.Handed
import Derived.Lay
import Derived.LaidHandle
import Derived.MakeChecks
import Derived.Test.YtjhdnapgdajllaaDoorCards
import Derived.Test.YtjhdnapgdajllaaDoorTie
import Derived.SevenTiedAt
import Derived.Stop.LaidErr
import Derived.LaidLaws
import Derived.Lib.LaidTab
import Derived.Shelf.Spec.TrailingZeros
import Derived.Test.YtjhdnapgdajllaaDoorWSized
namespace Go.Proofs.YtjhdnapgdajllaaDoor.fnSetDecode
open Go.ChangeShapes Go.WideShapes Go.ChangeAt Go.RowKit
open Go.ChangeMaps (open_string shut_string)
set_option linter.unusedVariables false
theorem own : ownKnob Tryd.prog.godebug = none := by kernel_rfl
theorem laidOut : laidOutB Tryd.prog = true := by kernel_rfl
theorem laid_met (os : Os) (args : Array Value) : laidMetH Tryd.prog Rows.fnSetDecodeRow.laid ((World.laidAll Tryd.prog os Rows.fnSetDecodeRow.laid).forCall (fun _ _ => 0) ⟨#[], args, []⟩).memory :=
  (Go.MakeChecks.laidMetH_plain _ _ _ (by kernel_rfl)).symm ▸ laidMet_laidAll args (by kernel_rfl) (by kernel_rfl)
theorem star_ : "*" ++ "errors.errorString" = "*errors.errorString" := by decide
theorem row_ptr (u : TypeId) (h : Tryd.prog.typeName? 3 u = some "*errors.errorString") : u = 138 :=
  typeName_ptr_named (nm := "errors.errorString") (by rw [star_]; kernel_rfl) (by kernel_rfl) (by decide) u (by rw [star_]; exact h)
theorem laid_cells (W : World) (h : laidMetH Tryd.prog Rows.fnSetDecodeRow.laid W) : ∃ a1 a2, TabAt 3 Lib.deBruijn64tab W ∧ W.cell? ⟨0, 0, none⟩ = some (.iface 138 (.pointer (some a1))) ∧ W.cell? ⟨1, 0, none⟩ = some (.iface 138 (.pointer (some a2))) ∧ (∃ v, W.cell? a1 = some v) ∧ (∃ v, W.cell? a2 = some v) := by
  have h0 : laidMet Tryd.prog Rows.fnSetDecodeRow.laid W := (Go.MakeChecks.laidMetH_plain _ _ _ (by kernel_rfl)) ▸ h
  have T0 : TabAt 3 Lib.deBruijn64tab W := by
    have hT := Lib.tabIs_of_head (P := Tryd.prog) (W := W) (name := "math/bits.deBruijn64tab") (k := .u8) (zs := Lib.deBruijn64tab.map (fun n : Nat => (n : Int))) (g := 3) (t := 116) (e := 5) (n := 64) (by kernel_rfl) (by kernel_rfl) Tryd.underlying116 Tryd.underlying5 (by kernel_rfl) (by kernel_rfl) h0
    intro j hj
    rw [hT.cell (show Tryd.prog.globalNamed "math/bits.deBruijn64tab" = some 3 by kernel_rfl) j (by rw [List.length_map]; exact hj)]
    simp [List.getD_eq_getElem?_getD, List.getElem?_map, List.getElem?_eq_getElem hj]
  have h1 := h0.tail
  obtain ⟨a1, _, v1, c1, _⟩ := laid_sentinel h1 (show Tryd.prog.globalNamed "pub-tokenroad/pub/natsserver/server/avl.ErrBadEncoding" = some 0 by kernel_rfl) (show (Tryd.prog.globals[0]?).map (·.type) = some 76 by kernel_rfl) Tryd.underlying76 row_ptr Tryd.underlying138 Tryd.underlying154 rfl rfl Tryd.underlying9 (by kernel_rfl) (by kernel_rfl)
  have h2 := h1.tail
  obtain ⟨a2, _, v2, c2, _⟩ := laid_sentinel h2 (show Tryd.prog.globalNamed "pub-tokenroad/pub/natsserver/server/avl.ErrBadVersion" = some 1 by kernel_rfl) (show (Tryd.prog.globals[1]?).map (·.type) = some 76 by kernel_rfl) Tryd.underlying76 row_ptr Tryd.underlying138 Tryd.underlying154 rfl rfl Tryd.underlying9 (by kernel_rfl) (by kernel_rfl)
  exact ⟨a1, a2, T0, (World.var?_cell (show Tryd.prog.globalNamed "pub-tokenroad/pub/natsserver/server/avl.ErrBadEncoding" = some 0 by kernel_rfl) v1 0).trans rfl, (World.var?_cell (show Tryd.prog.globalNamed "pub-tokenroad/pub/natsserver/server/avl.ErrBadVersion" = some 1 by kernel_rfl) v2 0).trans rfl, ⟨_, c1⟩, ⟨_, c2⟩⟩
set_option maxRecDepth 100000 in
theorem lifted (os : Os) (started : os.Started) (H : Type) (enc : TypeId × Value → H) :
    ReturnsInHanded {} Tryd.checked os 7 .any (fun w args => (Rows.fnSetDecodeSpec.pre enc Tryd.prog Tryd.f7 [] false w args ∧ laidMetH Tryd.prog Rows.fnSetDecodeRow.laid w) ∧ sizedMet enc Tryd.prog Tryd.f7 (OpenSpec.ofChange Rows.fnSetDecodeSpec) false w args) (Rows.fnSetDecodeSpec.post enc Tryd.prog Tryd.f7 false true false false) := by
  refine returnsInHanded_of_change_and (C := Tryd.checked) (X := fun w _ => laidMetH Tryd.prog Rows.fnSetDecodeRow.laid w) (fun _ _ _ hh h => h.of_heap hh) own started (by kernel_rfl) Tryd.func7
    (ChangeSpec.witness_at (enc := enc) (C := Tryd.checked) (os := os) (X := fun w _ => laidMetH Tryd.prog Rows.fnSetDecodeRow.laid w) false (World.laidAll Tryd.prog os Rows.fnSetDecodeRow.laid) #[.slice none 0 0] 8 (World.laidAll_os _ _ _) (by kernel_rfl) (by kernel_rfl) (by kernel_rfl) (by kernel_rfl) (by kernel_rfl) (laid_met os _)) ?_
  intro W base args ds gs before hval0 hW hcnd hsz0 hlaid _
  have hsz : (DataW.weightsEach Tryd.prog (Tryd.f7.params.toList ++ Rows.fnSetDecodeSpec.plain.varTypes Tryd.prog) (ds ++ gs)).all (· ≤ reachBytes) = true := hsz0
  have hval : ∀ (j : Nat) t v, Tryd.f7.params[j]? = some t → args[j]? = some v → Value.okWide Tryd.prog W .any base t v := hval0
  have hW' := hW
  obtain ⟨p, q, hA0, hV, rfl, hfz, hnd⟩ := hW
  have hA : DataW.TrodAll enc Tryd.prog W 0 (fun _ => true) true Tryd.f7.params.toList args.toList ds p := hA0
  rw [Tryd.params7] at hA hval hsz
  obtain ⟨v0, vs0, d0, ds0, p0, q0, hargs, rfl, rfl, h0, r0⟩ := trodAll_cons hA
  obtain ⟨rfl, rfl, rfl⟩ := trodAll_nil r0
  obtain rfl : args = #[v0] := by cases args; simp_all
  obtain ⟨rfl, rfl⟩ := trodVars_none hV
  obtain ⟨a0, len0, cap0, rfl⟩ := okWide_slice Tryd.underlying47 (hval 0 47 v0 rfl rfl)
  have k0 := h0
  have lt0 : ∀ x ∈ p0, x.block < W.heap.size := by obtain ⟨m, hm⟩ := k0; exact DataW.trod_lt m _ _ _ hm
  obtain ⟨l0, rfl, hC0, hc0, hm0, ok0⟩ := Go.Proofs.YtjhdnapgdajllaaDoor.Opens.Opens.arg PFnSetDecode.opensA0 h0
  clear hA0 hval0 hsz0 hsz
  have hp_ := Pure.FnSetDecode l0 hm0 ok0
  have hE_ : Go.Proofs.YtjhdnapgdajllaaDoor.SetDecY.DecLaid W := by
    obtain ⟨a1_, a2_, C0, C1, C2, D1, D2⟩ := laid_cells W hlaid
    exact ⟨C0, ⟨_, _, C1⟩, ⟨_, _, C2⟩⟩
  refine (PFnSetDecode.laws_FnSetDecode.calls _ _ l0 true W hC0 hc0 hp_ hE_).mono fun e W' ⟨he, bel⟩ => ?_
  subst he
  exact ⟨_, rfl, _, _, _, [], _, [], hW', trodAll_mk1 (shut_bool Tryd.underlying4 _), (trodAll_cons_mk (Below.trod laidOut (by kernel_rfl) (of_decide_eq_true (by kernel_rfl)) k0 bel lt0) trodAll_mk0), rfl, bel.frame _, fun h => by cases h⟩
theorem over : Rows.fnSetDecodeRow.holds Tryd.pinned (OpenSpec.ofChange Rows.fnSetDecodeSpec) :=
  OpenClaim.holds_of_wide 7 Tryd.f7 rfl rfl rfl rfl rfl rfl rfl ⟨rfl, rfl, rfl, rfl, rfl⟩ rfl rfl rfl rfl rfl (by kernel_rfl) Tryd.func7 (by kernel_rfl)
    (of_decide_eq_true (by kernel_rfl)) (by unfold Func.isWrapper; first | (rw [if_pos (by decide +kernel)]; kernel_rfl) | (rw [if_neg (by decide +kernel)]; exact ⟨rfl, rfl⟩))
    (fun os started H enc _ => lifted os started H enc)
theorem proved : Rows.FnSetDecodeSaid := over
#print axioms proved
end Go.Proofs.YtjhdnapgdajllaaDoor.fnSetDecode
namespace Go.Proofs.YtjhdnapgdajllaaDoor
theorem fnSetDecode_card : Rows.FnSetDecodeCardSaid :=
  Claim7.holds_tied_plain_at .later [] [.data, .sentinel, .sentinel] true (true, "26300f2071e52b584f198e0d4714b2cc5c98cf9cfbcb06b87c903140880a61e4") false
    fnSetDecode.proved (fun _ h => by cases h) (by kernel_rfl) (fun _ h => by cases h) fnSetDecode_row_tie rfl ⟨rfl, rfl⟩ (by kernel_rfl) rfl
    (fun f fn hf hfn => by
      obtain rfl : f = 7 := Option.some.inj ((show Tryd.prog.funcNamed "pub-tokenroad/laws.FnSetDecode" = some 7 by kernel_rfl).symm.trans hf) |>.symm
      obtain rfl : fn = Tryd.f7 := (Option.some.inj (Tryd.func7.symm.trans hfn)).symm
      refine ⟨by kernel_rfl, fun j t ht => ?_⟩
      rw [Tryd.params7] at ht
      rcases j with _ | j
      · have h0 : t = 47 := by simpa using ht.symm
        subst h0
        exact (show Tryd.prog.wantsStandIn 47 = false by kernel_rfl)
      · simp at ht)
    (by kernel_rfl)
/-- The tied card, under a short name, for the claim. -/
theorem fnSetDecode_holds : Rows.FnSetDecodeCardSaid := fnSetDecode_card
#print axioms fnSetDecode_holds
end Go.Proofs.YtjhdnapgdajllaaDoor
