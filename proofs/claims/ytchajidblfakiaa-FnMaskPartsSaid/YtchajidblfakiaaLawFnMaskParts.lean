/- FnMaskParts: whatever the key and the bytes, the law returns true. -/
import Derived.Test.YtchajidblfakiaaRows
import Derived.Test.YtchajidblfakiaaMaskL
import Derived.Test.YtchajidblfakiaaOpens
import Derived.WalkKit
import Derived.ProofKit
import Derived.OpenShut
import Derived.ShutString
import Derived.ChangeOld
import Derived.Below
import Derived.SizedLaws
import Derived.Laws.IdiomArrays
import Derived.Test.YtchajidblfakiaaWSized
namespace Go.Proofs.Ytchajidblfakiaa.fnMaskParts
open Go.ChangeShapes Go.WideShapes Go.ChangeAt Go.RowKit Go.Proofs.Ytchajidblfakiaa.MaskW Go.Proofs.Ytchajidblfakiaa.MaskL Go.Proofs.Ytchajidblfakiaa.PFnMaskParts Go.Proofs.Ytchajidblfakiaa.Opens Go.Proofs.Ytchajidblfakiaa.Road Go.Proofs.YtchajidblfakiaaW.PrintWords Go.Proofs.YtchajidblfakiaaW.PrintLast
set_option linter.unusedVariables false
/-! ### the plain part -/
theorem same_loop (v : List Int) (hv : v.length ≤ 140737488351232) (d : Nat) : ∀ i : Nat, i + d = v.length → Ev (fun k => laws_sameBytes.l0 k v v (i : Int)) true := by
  induction d with
  | zero =>
    intro i h
    refine Ev.step (f := fun _ => some true) (fun k => ?_) (Ev.now _)
    simp only [laws_sameBytes.l0]
    rw [if_neg (by omega)]
  | succ d ih =>
    intro i h
    refine Ev.step (f := fun k => laws_sameBytes.l0 k v v ((i + 1 : Nat) : Int)) (fun k => ?_) (ih (i + 1) (by omega))
    simp only [laws_sameBytes.l0]
    rw [if_pos (by omega), if_pos (by omega), if_pos (by omega), if_pos trivial, wrap_nat i (by omega)]
theorem same_ev (v : List Int) (hv : v.length ≤ 140737488351232) : ∃ k, laws_sameBytes.f k v v = some true := by
  obtain ⟨n, hn⟩ := same_loop v hv v.length 0 (by omega)
  refine ⟨n, ?_⟩
  unfold laws_sameBytes.f
  rw [if_pos rfl]
  exact hn n (Nat.le_refl _)
theorem plain (k0 k1 k2 k3 : Int) (a b : List Int) : ∃ k, laws_FnMaskParts.f k (k0, k1, k2, k3) a b = some true := by
  unfold laws_FnMaskParts.f
  by_cases h1 : 2147483647 < a.length
  · exact ⟨0, if_pos h1⟩
  by_cases h2 : 2147483647 < b.length
  · exact ⟨0, by rw [if_neg h1, if_pos h2]⟩
  by_cases h3 : 400 < a.length + b.length
  · exact ⟨0, by rw [if_neg h1, if_neg h2, if_pos h3]⟩
  obtain ⟨k, hk⟩ := same_ev (maskL (ksOf k0 k1 k2 k3) 0 (a ++ b)) (by rw [maskL_len, List.length_append]; omega)
  exact ⟨k, by rw [if_neg h1, if_neg h2, if_neg h3]; exact hk⟩
/-! ### the row -/
theorem u8_of {z : Int} (h : (Lit.int .u8 z).wf = true) : 0 ≤ z ∧ z ≤ 255 := bounds_u8 h
theorem keys_u8 {k0 k1 k2 k3 : Int} (h0 : 0 ≤ k0 ∧ k0 ≤ 255) (h1 : 0 ≤ k1 ∧ k1 ≤ 255) (h2 : 0 ≤ k2 ∧ k2 ≤ 255) (h3 : 0 ≤ k3 ∧ k3 ≤ 255) : ∀ j, 0 ≤ ksOf k0 k1 k2 k3 j ∧ ksOf k0 k1 k2 k3 j ≤ 255
  | 0 => h0
  | 1 => h1
  | 2 => h2
  | 3 => h3
  | j + 4 => by
    show 0 ≤ (0 : Int) ∧ (0 : Int) ≤ 255
    decide
theorem list4 {α : Type} (l : List α) (h : (⟨l⟩ : Array α).size = 4) : ∃ a b c d, l = [a, b, c, d] := by
  match l, h with
  | [a, b, c, d], _ => exact ⟨a, b, c, d, rfl⟩
theorem opensB : Opens Try.prog 23 (Kd.slice 5 (Kd.int .u8)) (fun l => l.length ≤ maxLen ∧ ∀ z ∈ l, (Lit.int .u8 z).wf = true) := Opens.slice (by kernel_rfl) (Opens.int (by kernel_rfl)) (by kernel_rfl)
theorem own : ownKnob Try.prog.godebug = none := by kernel_rfl
theorem laidOut : laidOutB Try.prog = true := by kernel_rfl
theorem cells5 : Try.prog.cellsOf 5 = 1 := by kernel_rfl
theorem cells22 : Try.prog.cellsOf 22 = 4 := by kernel_rfl
set_option maxRecDepth 100000 in
theorem lifted (os : Os) (started : os.Started) (H : Type) (enc : TypeId × Value → H) :
    ReturnsInHanded {} Try.checked os 3 .any (Rows.fnMaskPartsSpec.pre6 enc Try.prog Try.f3 Rows.fnMaskPartsRow.domain false) (Rows.fnMaskPartsSpec.post enc Try.prog Try.f3 false true false false) := by
  refine returnsInHanded_of_change_sized (C := Try.checked) own started (by kernel_rfl) Try.func3
    (ChangeSpec.witness6 (enc := enc) (C := Try.checked) false ⟨#[], #[.agg #[.int .u8 0, .int .u8 0, .int .u8 0, .int .u8 0], .slice none 0 0, .slice none 0 0], []⟩ 8 (by kernel_rfl) (by kernel_rfl) (by kernel_rfl) (by kernel_rfl)) ?_
  intro W base args ds gs before hval0 hW hcnd hsz0 _
  have hval : ∀ (j : Nat) t v, Try.f3.params[j]? = some t → args[j]? = some v → Value.okWide Try.prog W .any base t v := hval0
  have hW' := hW
  obtain ⟨p, q, hA0, hV, rfl, hfz, hnd⟩ := hW
  have hA : DataW.TrodAll enc Try.prog W 0 (fun _ => true) true Try.f3.params.toList args.toList ds p := hA0
  rw [Try.params3] at hA hval
  obtain ⟨v0, vs0, d0, ds0, p0, q0, hargs, rfl, rfl, h0, r0⟩ := trodAll_cons hA
  obtain ⟨v1, vs1, d1, ds1, p1, q1, rfl, rfl, rfl, h1, r1⟩ := trodAll_cons r0
  obtain ⟨v2, vs2, d2, ds2, p2, q2, rfl, rfl, rfl, h2, r2⟩ := trodAll_cons r1
  obtain ⟨rfl, rfl, rfl⟩ := trodAll_nil r2
  obtain rfl : args = #[v0, v1, v2] := by cases args; simp_all
  obtain ⟨rfl, rfl⟩ := trodVars_none hV
  obtain ⟨cs, rfl, hsz, _⟩ : ∃ cs, v0 = .agg cs ∧ cs.size = Try.prog.cellsOf 22 ∧ Row.okWide Try.prog W .any base 22 cs := by
    have := hval 0 22 v0 rfl rfl
    simpa [Value.okWide, Try.underlying22] using this
  rw [cells22] at hsz
  obtain ⟨l⟩ := cs
  obtain ⟨c0, c1, c2, c3, rfl⟩ := list4 l hsz
  obtain ⟨fuel, hf⟩ := h0
  obtain ⟨y0, y1, y2, y3, m, hx, hy0, hy1, hy2, hy3⟩ := trod_array4 Try.underlying22 cells5 hf
  obtain ⟨x0, e0, rfl, w0⟩ := DataW.trod_int Try.underlying5 hy0
  obtain ⟨x1, e1, rfl, w1⟩ := DataW.trod_int Try.underlying5 hy1
  obtain ⟨x2, e2, rfl, w2⟩ := DataW.trod_int Try.underlying5 hy2
  obtain ⟨x3, e3, rfl, w3⟩ := DataW.trod_int Try.underlying5 hy3
  simp at e0 e1 e2 e3
  subst e0 e1 e2 e3
  simp only [Prod.mk.injEq] at hx
  obtain ⟨rfl, rfl⟩ := hx
  obtain ⟨a1, len1, cap1, rfl⟩ := okWide_slice Try.underlying23 (hval 1 23 v1 rfl rfl)
  have k1 := h1
  have lt1 : ∀ x ∈ p1, x.block < W.heap.size := by obtain ⟨m, hm⟩ := k1; exact DataW.trod_lt m _ _ _ hm
  obtain ⟨l1, rfl, hC1, hc1, hm1, ok1⟩ := Go.Proofs.Ytchajidblfakiaa.Opens.Opens.arg opensB h1
  obtain ⟨a2, len2, cap2, rfl⟩ := okWide_slice Try.underlying23 (hval 2 23 v2 rfl rfl)
  have k2 := h2
  have lt2 : ∀ x ∈ p2, x.block < W.heap.size := by obtain ⟨m, hm⟩ := k2; exact DataW.trod_lt m _ _ _ hm
  obtain ⟨l2, rfl, hC2, hc2, hm2, ok2⟩ := Go.Proofs.Ytchajidblfakiaa.Opens.Opens.arg opensB h2
  clear hA0 hval0 hsz0
  obtain ⟨k_, hp_⟩ := plain x0 x1 x2 x3 l1 l2
  refine (FM_all x0 x1 x2 x3 _ _ l1 _ _ l2 W hC1 hc1 hC2 hc2 (fun z hz => u8_of (ok1 z hz)) (fun z hz => u8_of (ok2 z hz)) (keys_u8 (u8_of w0) (u8_of w1) (u8_of w2) (u8_of w3)) k_ hp_).mono fun e W' ⟨he, bel⟩ => ?_
  subst he
  have rdA : ∀ sp : Nat → Bool, DataW.Trod enc Try.prog W' 0 sp true 22 (.agg #[.int .u8 x0, .int .u8 x1, .int .u8 x2, .int .u8 x3]) (DataW.agg [.lit (.int .u8 x0), .lit (.int .u8 x1), .lit (.int .u8 x2), .lit (.int .u8 x3)]) ([] ++ ([] ++ ([] ++ []))) := fun sp => ⟨2, by simp [DataW.trod, Value.cells, Try.underlying22, Try.underlying5, cells22, cells5, w0, w1, w2, w3, show List.range 4 = [0, 1, 2, 3] from rfl]⟩
  exact ⟨_, rfl, _, _, _, [], _, [], hW', trodAll_mk1 (shut_bool Try.underlying4 _), (trodAll_cons_mk (rdA _) (trodAll_cons_mk (Below.trod laidOut (by kernel_rfl) (of_decide_eq_true (by kernel_rfl)) k1 bel lt1) (trodAll_cons_mk (Below.trod laidOut (by kernel_rfl) (of_decide_eq_true (by kernel_rfl)) k2 bel lt2) trodAll_mk0))), rfl, bel.frame _, fun h => by cases h⟩
theorem over : Rows.fnMaskPartsRow.holds Try.pinned (OpenSpec.ofChange Rows.fnMaskPartsSpec) :=
  OpenClaim.holds_of_wide 3 Try.f3 rfl rfl rfl rfl rfl rfl rfl ⟨rfl, rfl, rfl, rfl, rfl⟩ rfl rfl rfl rfl rfl (by kernel_rfl) Try.func3 (by kernel_rfl)
    (of_decide_eq_true (by kernel_rfl)) (by unfold Func.isWrapper; first | (rw [if_pos (by decide +kernel)]; kernel_rfl) | (rw [if_neg (by decide +kernel)]; exact ⟨rfl, rfl⟩))
    (fun os started H enc _ => lifted os started H enc)
theorem proved : Rows.FnMaskPartsSaid := over
#print axioms proved
end Go.Proofs.Ytchajidblfakiaa.fnMaskParts
namespace Go.Proofs.Ytchajidblfakiaa
/-- The row, under a short name, for the claim. -/
theorem fnMaskParts_holds : Rows.FnMaskPartsSaid := fnMaskParts.proved
end Go.Proofs.Ytchajidblfakiaa
