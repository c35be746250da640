/- FnSetDecode: whatever the bytes, the law returns true. -/
import Derived.Test.YtjhdnapgdajllaaDoorPFnSetDecoder
import Derived.Test.YtjhdnapgdajllaaDoorRoad
namespace Go.Proofs.YtjhdnapgdajllaaDoor.Pure
open Go.RowKit Go.Proofs.YtjhdnapgdajllaaDoor.PFnSetDecode Go.Proofs.YtjhdnapgdajllaaDoorW.PrintWords Go.Proofs.YtjhdnapgdajllaaDoorW.PrintLast Go.Proofs.YtjhdnapgdajllaaDoor.Road
set_option linter.unusedVariables false
set_option linter.unusedSimpArgs false

-- SENT: FnSetDecode: whatever the bytes, the law returns true.
open SetW SetDecY
theorem awake_eq : laws_awakeSet.f = some true := by
  have e : impl_SetFirst.f [(⟨0, 7⟩ : S34)] 2 = some [7] := by decide
  unfold laws_awakeSet.f
  rw [e]
  decide
theorem decA_used {ys L : List Nat} {u : Nat} (h : decA ys = some (L, u)) : 10 ≤ u ∧ u ≤ ys.length := by
  unfold decA at h
  split at h
  · cases h
  · rename_i h1
    split at h
    · cases h
    · split at h
      · split at h
        · cases h
        · rename_i h2
          split at h
          · simp only [Option.some.injEq, Prod.mk.injEq] at h
            omega
          · cases h
      · split at h
        · split at h
          · cases h
          · rename_i h2
            simp only [Option.some.injEq, Prod.mk.injEq] at h
            omega
        · cases h
theorem u8_wf {z : Int} (h : (Lit.int .u8 z).wf = true) : 0 ≤ z ∧ z < 256 := by
  simp [Lit.wf, IntKind.min, IntKind.max, IntKind.signed, IntKind.bits] at h
  omega
theorem FnSetDecode : laws_FnSetDecode.Pure := by
  intro l0 hm0 hok0
  unfold laws_FnSetDecode.f
  by_cases h1 : (l0.length : Int) > 2147483647
  · rw [if_pos h1]
  · rw [if_neg h1]
    by_cases h2 : (l0.length : Int) > 600
    · rw [if_pos h2, awake_eq]
      rfl
    · rw [if_neg h2, Option.bind_some, if_pos (by rw [List.length_nil]; omega), List.nil_append]
      have hc : l0.all (fun z => decide (0 ≤ z) && decide (z < 256)) = true ∧ l0.length ≤ 1000 := by
        refine ⟨List.all_eq_true.2 fun z hz => ?_, by omega⟩
        have := u8_wf (hok0 z hz)
        simp only [Bool.and_eq_true, decide_eq_true_eq]
        exact this
      cases hd : decA (l0.map Int.toNat) with
      | none =>
        have e : impl_SetDecode.f l0 = some ([], 0, 1) := by
          unfold impl_SetDecode.f
          rw [if_pos hc, hd]
        rw [e, Option.bind_some, if_neg (show ¬ ((([] : List Int), (0 : Int), (1 : Int)).2.2 = 0) by decide), awake_eq]
        rfl
      | some q =>
        obtain ⟨L, u⟩ := q
        have hu := decA_used hd
        rw [List.length_map] at hu
        have e : impl_SetDecode.f l0 = some (L.map (fun n : Nat => (n : Int)), (u : Int), 0) := by
          unfold impl_SetDecode.f
          rw [if_pos hc, hd]
        rw [e, Option.bind_some, if_pos (show ((L.map (fun n : Nat => (n : Int)), (u : Int), (0 : Int)) : List Int × Int × Int).2.2 = 0 from rfl), if_pos (by omega), if_pos (by show (u : Int) ≥ 0; omega), if_pos (by show (u : Int) ≤ (l0.length : Int); omega), if_pos (by show (u : Int) > 0; omega), awake_eq]
        rfl

end Go.Proofs.YtjhdnapgdajllaaDoor.Pure
