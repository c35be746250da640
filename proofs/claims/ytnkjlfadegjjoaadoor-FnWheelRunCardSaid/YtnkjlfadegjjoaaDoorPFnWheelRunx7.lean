-- Written by hprint.py (this session's program, over the kit's printing program, with this session's own contracts in it). Not trusted: Lean checks it.
import Derived.Test.YtnkjlfadegjjoaaDoorPFnWheelRunx0
namespace Go.Proofs.YtnkjlfadegjjoaaDoor.PFnWheelRun
open Go.RowKit Go.Proofs.YtnkjlfadegjjoaaDoorW.PrintWords Go.Proofs.YtnkjlfadegjjoaaDoorW.PrintLast Go.Proofs.YtnkjlfadegjjoaaDoorW.PrintMore
attribute [local go_sem] max2_int min2_int max_two min_two max_three min_three max_four min_four   -- for this text's walks alone
set_option linter.unusedVariables false
set_option linter.unusedSimpArgs false

/-! ### laws_FnWheelRun: function 3 -/
-- LAID YtnkjlfadegjjoaaDoor.WhA.WLaid | ⟨⟨_, _, C0⟩⟩
section
open _root_.Go.Proofs.YtnkjlfadegjjoaaDoor.WhA _root_.Go.Proofs.YtnkjlfadegjjoaaDoor.WhC _root_.Go.Proofs.YtnkjlfadegjjoaaDoor.WhT
def laws_FnWheelRun.ts (l : List S34) : List Trn := l.map (fun a => (a.f0, a.f1, a.f2, a.f3, a.f4))
def laws_FnWheelRun.f (l0 : List (S34)) : Option Bool := if l0.all (fun a => decide (0 ≤ a.f1) && decide (a.f1 < 18446744073709551616)) = true then some true else none
theorem laws_FnWheelRun.tsAt {w : World} {A : Option Addr} {l : List S34} (h : Kd.C k34 w A l.length l) : Kd.C kTr w A (laws_FnWheelRun.ts l).length (laws_FnWheelRun.ts l) := by
  obtain ⟨h1, h2, h3⟩ := h
  have hl : (laws_FnWheelRun.ts l).length = l.length := List.length_map _
  refine ⟨rfl, by rw [hl]; exact h2, fun hn => ?_⟩
  obtain ⟨ad, e, hc⟩ := h3 (by rw [hl] at hn; exact hn)
  refine ⟨ad, e, fun j p hj => ?_⟩
  unfold laws_FnWheelRun.ts at hj
  rw [List.getElem?_map] at hj
  obtain ⟨y, hy, rfl⟩ := Option.map_eq_some_iff.1 hj
  exact hc j y hy
theorem laws_FnWheelRun.wfs {l : List S34} (h : l.all (fun a => decide (0 ≤ a.f1) && decide (a.f1 < 18446744073709551616)) = true) : ∀ i, i < (laws_FnWheelRun.ts l).length → wfU (rdTr (laws_FnWheelRun.ts l) i).2.1 := fun i hi => by
  have hl : (laws_FnWheelRun.ts l).length = l.length := List.length_map _
  have hi' : i < l.length := by rw [← hl]; exact hi
  have := List.all_eq_true.1 h (l[i]'hi') (List.getElem_mem hi')
  simp only [Bool.and_eq_true, decide_eq_true_eq] at this
  have e : rdTr (laws_FnWheelRun.ts l) i = ((l[i]'hi').f0, (l[i]'hi').f1, (l[i]'hi').f2, (l[i]'hi').f3, (l[i]'hi').f4) := by
    unfold rdTr laws_FnWheelRun.ts
    rw [List.getD_eq_getElem?_getD, List.getElem?_map, List.getElem?_eq_getElem hi']
    rfl
  rw [e]
  exact this
theorem laws_FnWheelRun.calls (A0 : Option Addr) (c0 : Nat) (l0 : List (S34)) (r : Bool) (w : World) (hr0 : Kd.C k34 w A0 l0.length l0) (hc0 : l0.length ≤ c0) (h : laws_FnWheelRun.f l0 = some r) (hE : WLaid w) :
    Calls Tryd.prog 3 #[.slice A0 l0.length c0] w fun e w' => e = .returned (.bool r) ∧ Below w.heap.size w w' := by
  unfold laws_FnWheelRun.f at h
  split at h
  · rename_i hc
    obtain rfl := Option.some.inj h
    have hl : (laws_FnWheelRun.ts l0).length = l0.length := List.length_map _
    have := law_calls (laws_FnWheelRun.ts l0) A0 c0 w (laws_FnWheelRun.tsAt hr0) (by rw [hl]; exact hc0) hE (laws_FnWheelRun.wfs hc)
    rw [hl] at this
    exact this
  · exact absurd h (by simp)
end




end Go.Proofs.YtnkjlfadegjjoaaDoor.PFnWheelRun
