-- Written by hprint.py (this session's program, over the kit's printing program, with this session's own contracts in it). Not trusted: Lean checks it.
import Derived.Test.YtjhdnapgdajllaaDoorPFnSetLatticex0
import Derived.Test.YtjhdnapgdajllaaDoorPFnSetLatticex1
namespace Go.Proofs.YtjhdnapgdajllaaDoor.PFnSetLattice
open Go.RowKit Go.Proofs.YtjhdnapgdajllaaDoorW.PrintWords Go.Proofs.YtjhdnapgdajllaaDoorW.PrintLast Go.Proofs.YtjhdnapgdajllaaDoorW.PrintMore
attribute [local go_sem] max2_int min2_int max_two min_two max_three min_three max_four min_four   -- for this text's walks alone
set_option linter.unusedVariables false
set_option linter.unusedSimpArgs false

/-! ### laws_FnSetLattice: function 10 -/
mutual
def laws_FnSetLattice.j0 : Nat → List (S34) → List (S34) → Int → Bool → Option (Bool)
  | 0, _, _, _, _ => none
  | k + 1, x0, x1, x2, x16 => if x16 = true then (some true) else ((laws_acts.f k x0).bind fun t120 => (if t120 = true then ((laws_acts.f k x1).bind fun t121 => (if t121 = true then (laws_FnSetLattice.j1 k x0 x1 x2 (decide (x2 ≥ 18446744073709549568))) else (laws_FnSetLattice.j1 k x0 x1 x2 true))) else (laws_FnSetLattice.j1 k x0 x1 x2 true)))
def laws_FnSetLattice.j1 : Nat → List (S34) → List (S34) → Int → Bool → Option (Bool)
  | 0, _, _, _, _ => none
  | k + 1, x0, x1, x2, x28 => if x28 = true then ((laws_awakeSet.f).bind fun t122 => (some t122)) else ((impl_SetUnion.f x0 x1 false).bind fun t123 => ((impl_SetUnion.f x1 x0 true).bind fun t126 => ((spec_SameSet.f k t123 t126).bind fun t129 => (if t129 = true then ((impl_SetUnion.f x0 x0 true).bind fun t130 => ((laws_numbers.f x0).bind fun t133 => ((spec_SameSet.f k t130 t133).bind fun t136 => (if t136 = true then ((impl_SetUnion.f x0 ([] : List (S34)) false).bind fun t137 => ((laws_numbers.f x0).bind fun t140 => ((spec_SameSet.f k t137 t140).bind fun t143 => (laws_FnSetLattice.j2 k x0 x1 x2 t123 (!t143))))) else (laws_FnSetLattice.j2 k x0 x1 x2 t123 true))))) else (laws_FnSetLattice.j2 k x0 x1 x2 t123 true)))))
def laws_FnSetLattice.j2 : Nat → List (S34) → List (S34) → Int → List Int → Bool → Option (Bool)
  | 0, _, _, _, _, _ => none
  | k + 1, x0, x1, x2, x7, x56 => if x56 = true then (some false) else ((spec_In.f k x7 x2).bind fun t144 => ((impl_SetExists.f x0 x2).bind fun t145 => (if t145 = true then (if (t144 == true) = true then ((laws_awakeSet.f).bind fun t146 => (some t146)) else (some false)) else ((impl_SetExists.f x1 x2).bind fun t147 => (if (t144 == t147) = true then ((laws_awakeSet.f).bind fun t148 => (some t148)) else (some false))))))
end
def laws_FnSetLattice.f (k : Nat) (l0 : List (S34)) (l1 : List (S34)) (a2 : Int) : Option (Bool) := if (l0.length : Int) > 2147483647 then (laws_FnSetLattice.j0 k l0 l1 a2 true) else (laws_FnSetLattice.j0 k l0 l1 a2 (decide ((l1.length : Int) > 2147483647)))
theorem laws_FnSetLattice.mono_l : ∀ k, (∀ y0 y1 y2 y3, LeO (laws_FnSetLattice.j0 k y0 y1 y2 y3) (laws_FnSetLattice.j0 (k + 1) y0 y1 y2 y3)) ∧ (∀ y0 y1 y2 y3, LeO (laws_FnSetLattice.j1 k y0 y1 y2 y3) (laws_FnSetLattice.j1 (k + 1) y0 y1 y2 y3)) ∧ (∀ y0 y1 y2 y3 y4, LeO (laws_FnSetLattice.j2 k y0 y1 y2 y3 y4) (laws_FnSetLattice.j2 (k + 1) y0 y1 y2 y3 y4))
  | 0 => ⟨fun _ _ _ _ r h => by simp [laws_FnSetLattice.j0] at h, fun _ _ _ _ r h => by simp [laws_FnSetLattice.j1] at h, fun _ _ _ _ _ r h => by simp [laws_FnSetLattice.j2] at h⟩
  | k + 1 => by
    obtain ⟨ih0, ih1, ih2⟩ := laws_FnSetLattice.mono_l k
    refine ⟨?_, ?_, ?_⟩
    · intro y0 y1 y2 y3
      unfold laws_FnSetLattice.j0
      repeat' first
      | (with_reducible exact ih0 _ _ _ _)
      | (with_reducible exact ih1 _ _ _ _)
      | (with_reducible exact ih2 _ _ _ _ _)
      | (with_reducible exact laws_acts.mono _ _)
      | (with_reducible exact spec_In.mono _ _ _)
      | (with_reducible exact spec_SameSet.mono _ _ _)
      | (with_reducible exact LeO.refl _)
      | (with_reducible exact LeO.none _)
      | (with_reducible refine LeO.ite ?_ ?_)
      | (with_reducible refine LeO.bind ?_ (fun _ => ?_))
      | exact ih0 _ _ _ _
      | exact ih1 _ _ _ _
      | exact ih2 _ _ _ _ _
      | exact laws_acts.mono _ _
      | exact spec_In.mono _ _ _
      | exact spec_SameSet.mono _ _ _
      | exact LeO.none _
      | refine LeO.ite ?_ ?_
      | refine LeO.bind ?_ (fun _ => ?_)
    · intro y0 y1 y2 y3
      unfold laws_FnSetLattice.j1
      repeat' first
      | (with_reducible exact ih0 _ _ _ _)
      | (with_reducible exact ih1 _ _ _ _)
      | (with_reducible exact ih2 _ _ _ _ _)
      | (with_reducible exact laws_acts.mono _ _)
      | (with_reducible exact spec_In.mono _ _ _)
      | (with_reducible exact spec_SameSet.mono _ _ _)
      | (with_reducible exact LeO.refl _)
      | (with_reducible exact LeO.none _)
      | (with_reducible refine LeO.ite ?_ ?_)
      | (with_reducible refine LeO.bind ?_ (fun _ => ?_))
      | exact ih0 _ _ _ _
      | exact ih1 _ _ _ _
      | exact ih2 _ _ _ _ _
      | exact laws_acts.mono _ _
      | exact spec_In.mono _ _ _
      | exact spec_SameSet.mono _ _ _
      | exact LeO.none _
      | refine LeO.ite ?_ ?_
      | refine LeO.bind ?_ (fun _ => ?_)
    · intro y0 y1 y2 y3 y4
      unfold laws_FnSetLattice.j2
      repeat' first
      | (with_reducible exact ih0 _ _ _ _)
      | (with_reducible exact ih1 _ _ _ _)
      | (with_reducible exact ih2 _ _ _ _ _)
      | (with_reducible exact laws_acts.mono _ _)
      | (with_reducible exact spec_In.mono _ _ _)
      | (with_reducible exact spec_SameSet.mono _ _ _)
      | (with_reducible exact LeO.refl _)
      | (with_reducible exact LeO.none _)
      | (with_reducible refine LeO.ite ?_ ?_)
      | (with_reducible refine LeO.bind ?_ (fun _ => ?_))
      | exact ih0 _ _ _ _
      | exact ih1 _ _ _ _
      | exact ih2 _ _ _ _ _
      | exact laws_acts.mono _ _
      | exact spec_In.mono _ _ _
      | exact spec_SameSet.mono _ _ _
      | exact LeO.none _
      | refine LeO.ite ?_ ?_
      | refine LeO.bind ?_ (fun _ => ?_)
theorem laws_FnSetLattice.mono : ∀ a0 a1 a2 k, LeO (laws_FnSetLattice.f k a0 a1 a2) (laws_FnSetLattice.f (k + 1) a0 a1 a2) := by
  intro a0 a1 a2 k
  obtain ⟨ih0, ih1, ih2⟩ := laws_FnSetLattice.mono_l k
  unfold laws_FnSetLattice.f
  repeat' first
      | (with_reducible exact ih0 _ _ _ _)
      | (with_reducible exact ih1 _ _ _ _)
      | (with_reducible exact ih2 _ _ _ _ _)
      | (with_reducible exact laws_acts.mono _ _)
      | (with_reducible exact spec_In.mono _ _ _)
      | (with_reducible exact spec_SameSet.mono _ _ _)
      | (with_reducible exact LeO.refl _)
      | (with_reducible exact LeO.none _)
      | (with_reducible refine LeO.ite ?_ ?_)
      | (with_reducible refine LeO.bind ?_ (fun _ => ?_))
      | exact ih0 _ _ _ _
      | exact ih1 _ _ _ _
      | exact ih2 _ _ _ _ _
      | exact laws_acts.mono _ _
      | exact spec_In.mono _ _ _
      | exact spec_SameSet.mono _ _ _
      | exact LeO.none _
      | refine LeO.ite ?_ ?_
      | refine LeO.bind ?_ (fun _ => ?_)
set_option maxHeartbeats 8000000 in
set_option maxRecDepth 100000 in
theorem laws_FnSetLattice.calls (k : Nat) (A0 : Option Addr) (c0 : Nat) (l0 : List (S34)) (A1 : Option Addr) (c1 : Nat) (l1 : List (S34)) (a2 : Int) (r : Bool) (w : World) (hr0 : Kd.C k34 w A0 l0.length l0) (hc0 : l0.length ≤ c0) (hr1 : Kd.C k34 w A1 l1.length l1) (hc1 : l1.length ≤ c1) (h : laws_FnSetLattice.f k l0 l1 a2 = some r) (hE_ : Go.Proofs.YtjhdnapgdajllaaDoor.SetSpecW.TabLaid w) :
    Calls Tryd.prog 10 #[.slice A0 l0.length c0, .slice A1 l1.length c1, .int .u64 a2] w fun e w' => e = .returned (.bool r) ∧ Below w.heap.size w w' := by
  have HE_ := Aside0.mk hE_
  clear hE_
  have HR0 := Aside0.mk hr0
  have HC0 := Aside0.mk hc0
  clear hr0 hc0
  have HR1 := Aside0.mk hr1
  have HC1 := Aside0.mk hc1
  clear hr1 hc1
  have HB := Aside0.mk (Below.refl w.heap.size w)
  have H : (if (l0.length : Int) > 2147483647 then (laws_FnSetLattice.j0 k l0 l1 a2 true) else (laws_FnSetLattice.j0 k l0 l1 a2 (decide ((l1.length : Int) > 2147483647)))) = some r := h
  clear h
  have HC4 := Aside0.mk H
  clear H
  go_enter Tryd.func10, Tryd.ntmps10
  go_upto_region 1 with (fail)
  go_cut [16] (fun v16 wc => ∃ (kq : Nat) (x16_3 : Bool), v16 = .bool x16_3 ∧ Aside0 (laws_FnSetLattice.j0 kq l0 l1 a2 x16_3 = some r) ∧ Aside0 (kq ≤ k) ∧ Aside0 (Below w.heap.size w wc))
  case first =>
    have H := HC4.out
    clear HC4
    by_cases c5 : (l0.length : Int) > 2147483647
    · rw [if_pos c5] at H
      have c5b0 : decide (2147483647 < (l0.length : Int)) = true := decide_eq_true c5
      have c5b1 : decide (2147483647 < l0.length) = true := decide_eq_true (by omega)
      clear c5
      (first | rw [c5b0] | (simp only [i64_w, i32_w]; rw [c5b0]) | skip)
      have H' := Aside0.mk H
      clear H
      go_wp2
      go_meet
      case rel => exact ⟨_, (true), (by first | rfl | (simp; done) | (simp [*]; done)), H', ⟨by first | omega | exact Nat.le_refl _⟩, ⟨by repeat (first | (with_reducible first | exact HB.out | apply below_alloc | apply pw_below_drewN | apply below_drew1) | exact HB.out)⟩⟩
    · rw [if_neg c5] at H
      have c5b0 : decide (2147483647 < (l0.length : Int)) = false := decide_eq_false c5
      have c5b1 : decide (2147483647 < l0.length) = false := decide_eq_false (by omega)
      clear c5
      (first | rw [c5b0] | (simp only [i64_w, i32_w]; rw [c5b0]) | skip)
      have H' := Aside0.mk H
      clear H
      go_wp2
      go_meet
      case rel => exact ⟨_, (decide ((l1.length : Int) > 2147483647)), (by first | rfl | (simp; done) | (simp [*]; done)), H', ⟨by first | omega | exact Nat.le_refl _⟩, ⟨by repeat (first | (with_reducible first | exact HB.out | apply below_alloc | apply pw_below_drewN | apply below_drew1) | exact HB.out)⟩⟩
  case rest =>
    clear HC4
    try clear c1
    try clear p2
    try clear c5
    try clear c5b0
    try clear c5b1
    obtain ⟨kq, x16_3, rfl, HA, HJ3, HB⟩ := hcut
    cases kq with
    | zero => exact absurd HA.out (by simp [laws_FnSetLattice.j0])
    | succ kj3 =>
      have H := HA.out
      clear HA
      simp only [laws_FnSetLattice.j0] at H
      by_cases c6 : x16_3 = true
      · subst c6
        have H1 : (some true) = some r := by rw [if_pos rfl] at H; exact H
        clear H
        have H := H1
        clear H1
        obtain rfl := Option.some.inj H
        go_wp2
        go_ret
        exact ⟨by first | rfl | (simp [errW_none, errW_some] <;> rfl) | (simp [*, errW_none, errW_some] <;> rfl) | (simp [errW_none, errW_some]; generalize ByteArray.toList _ = l_; cases l_ <;> rfl), by repeat (first | (with_reducible first | exact HB.out | apply below_alloc | apply pw_below_drewN | apply below_drew1) | exact HB.out)⟩
      · replace c6 := Bool.eq_false_iff.mpr c6
        subst c6
        have H1 : ((laws_acts.f kj3 l0).bind fun t120 => (if t120 = true then ((laws_acts.f kj3 l1).bind fun t121 => (if t121 = true then (laws_FnSetLattice.j1 kj3 l0 l1 a2 (decide (a2 ≥ 18446744073709549568))) else (laws_FnSetLattice.j1 kj3 l0 l1 a2 true))) else (laws_FnSetLattice.j1 kj3 l0 l1 a2 true))) = some r := by rw [if_neg (show ¬ (false = true) by decide)] at H; exact H
        clear H
        have H := H1
        clear H1
        have HC7 := Aside0.mk H
        clear H
        go_upto_region 3 with (fail)
        go_cut [28] (fun v28 wc => ∃ (kq : Nat) (x28_6 : Bool), v28 = .bool x28_6 ∧ Aside0 (laws_FnSetLattice.j1 kq l0 l1 a2 x28_6 = some r) ∧ Aside0 (kq ≤ kj3) ∧ Aside0 (Below w.heap.size w wc))
        case first =>
          have H := HC7.out
          clear HC7
          replace H := Option.bind_eq_some_iff.mp H
          obtain ⟨t120, A80, H⟩ := H
          replace H : (if t120 = true then ((laws_acts.f kj3 l1).bind fun t121 => (if t121 = true then (laws_FnSetLattice.j1 kj3 l0 l1 a2 (decide (a2 ≥ 18446744073709549568))) else (laws_FnSetLattice.j1 kj3 l0 l1 a2 true))) else (laws_FnSetLattice.j1 kj3 l0 l1 a2 true)) = some r := H
          have A8 := Aside0.mk A80
          clear A80
          by_cases c9 : t120 = true
          · subst c9
            have H1 : ((laws_acts.f kj3 l1).bind fun t121 => (if t121 = true then (laws_FnSetLattice.j1 kj3 l0 l1 a2 (decide (a2 ≥ 18446744073709549568))) else (laws_FnSetLattice.j1 kj3 l0 l1 a2 true))) = some r := by rw [if_pos rfl] at H; exact H
            clear H
            have H := H1
            clear H1
            replace H := Option.bind_eq_some_iff.mp H
            obtain ⟨t121, A100, H⟩ := H
            replace H : (if t121 = true then (laws_FnSetLattice.j1 kj3 l0 l1 a2 (decide (a2 ≥ 18446744073709549568))) else (laws_FnSetLattice.j1 kj3 l0 l1 a2 true)) = some r := H
            have A10 := Aside0.mk A100
            clear A100
            by_cases c11 : t121 = true
            · subst c11
              have H1 : (laws_FnSetLattice.j1 kj3 l0 l1 a2 (decide (a2 ≥ 18446744073709549568))) = some r := by rw [if_pos rfl] at H; exact H
              clear H
              have H := H1
              clear H1
              have H' := Aside0.mk H
              clear H
              go_wp2_with (first | ((with_reducible refine gate_callee (f := 11) rfl ?_); refine goesL_ (some 18) rfl rfl Tryd.func11 (by kernel_rfl) rfl #[.slice A0 l0.length c0] rfl (by (try simp only [List.map_toArray, List.map_cons, List.map_nil]); first | done | rfl | (simp only [List.length_drop, List.length_take]; rfl)) ?_; (with_reducible refine (laws_acts.calls kj3 _ _ l0 true _ ?side1 ?side2 A8.out).mono ?_); (case side1 => repeat (first | exact (Kd.C_below HR0.out HB.out) | (with_reducible refine Kd.C_alloc ?_ _) | (with_reducible refine Kd.C_drewN ?_ _) | (with_reducible refine Kd.C_drew ?_))); (case side2 => exact HC0.out); rintro e w' ⟨rfl, ⟨nd, rfl⟩⟩; refine ⟨_, rfl, ?_⟩) | (go_at_call 11; (with_reducible refine (laws_acts.calls kj3 _ _ l1 true _ ?side1 ?side2 A10.out).mono ?_); (case side1 => repeat (first | exact (Kd.C_below HR1.out (by repeat (first | (with_reducible first | exact HB.out | apply below_alloc | apply pw_below_drewN | apply below_drew1) | exact HB.out))) | (with_reducible refine Kd.C_alloc ?_ _) | (with_reducible refine Kd.C_drewN ?_ _) | (with_reducible refine Kd.C_drew ?_))); (case side2 => exact HC1.out); rintro e w' ⟨rfl, ⟨nd, rfl⟩⟩))
              go_meet
              case rel => exact ⟨_, (decide (a2 ≥ 18446744073709549568)), (by first | rfl | (simp; done) | (simp [*]; done)), H', ⟨by have := HJ3.out; first | omega | exact Nat.le_refl _⟩, ⟨by repeat (first | (with_reducible first | exact HB.out | apply below_alloc | apply pw_below_drewN | apply below_drew1) | exact HB.out)⟩⟩
            · replace c11 := Bool.eq_false_iff.mpr c11
              subst c11
              have H1 : (laws_FnSetLattice.j1 kj3 l0 l1 a2 true) = some r := by rw [if_neg (show ¬ (false = true) by decide)] at H; exact H
              clear H
              have H := H1
              clear H1
              have H' := Aside0.mk H
              clear H
              go_wp2_with (first | ((with_reducible refine gate_callee (f := 11) rfl ?_); refine goesL_ (some 18) rfl rfl Tryd.func11 (by kernel_rfl) rfl #[.slice A0 l0.length c0] rfl (by (try simp only [List.map_toArray, List.map_cons, List.map_nil]); first | done | rfl | (simp only [List.length_drop, List.length_take]; rfl)) ?_; (with_reducible refine (laws_acts.calls kj3 _ _ l0 true _ ?side1 ?side2 A8.out).mono ?_); (case side1 => repeat (first | exact (Kd.C_below HR0.out HB.out) | (with_reducible refine Kd.C_alloc ?_ _) | (with_reducible refine Kd.C_drewN ?_ _) | (with_reducible refine Kd.C_drew ?_))); (case side2 => exact HC0.out); rintro e w' ⟨rfl, ⟨nd, rfl⟩⟩; refine ⟨_, rfl, ?_⟩) | (go_at_call 11; (with_reducible refine (laws_acts.calls kj3 _ _ l1 false _ ?side1 ?side2 A10.out).mono ?_); (case side1 => repeat (first | exact (Kd.C_below HR1.out (by repeat (first | (with_reducible first | exact HB.out | apply below_alloc | apply pw_below_drewN | apply below_drew1) | exact HB.out))) | (with_reducible refine Kd.C_alloc ?_ _) | (with_reducible refine Kd.C_drewN ?_ _) | (with_reducible refine Kd.C_drew ?_))); (case side2 => exact HC1.out); rintro e w' ⟨rfl, ⟨nd, rfl⟩⟩))
              go_meet
              case rel => exact ⟨_, (true), (by first | rfl | (simp; done) | (simp [*]; done)), H', ⟨by have := HJ3.out; first | omega | exact Nat.le_refl _⟩, ⟨by repeat (first | (with_reducible first | exact HB.out | apply below_alloc | apply pw_below_drewN | apply below_drew1) | exact HB.out)⟩⟩
          · replace c9 := Bool.eq_false_iff.mpr c9
            subst c9
            have H1 : (laws_FnSetLattice.j1 kj3 l0 l1 a2 true) = some r := by rw [if_neg (show ¬ (false = true) by decide)] at H; exact H
            clear H
            have H := H1
            clear H1
            have H' := Aside0.mk H
            clear H
            go_wp2_with (first | ((with_reducible refine gate_callee (f := 11) rfl ?_); refine goesL_ (some 18) rfl rfl Tryd.func11 (by kernel_rfl) rfl #[.slice A0 l0.length c0] rfl (by (try simp only [List.map_toArray, List.map_cons, List.map_nil]); first | done | rfl | (simp only [List.length_drop, List.length_take]; rfl)) ?_; (with_reducible refine (laws_acts.calls kj3 _ _ l0 false _ ?side1 ?side2 A8.out).mono ?_); (case side1 => repeat (first | exact (Kd.C_below HR0.out HB.out) | (with_reducible refine Kd.C_alloc ?_ _) | (with_reducible refine Kd.C_drewN ?_ _) | (with_reducible refine Kd.C_drew ?_))); (case side2 => exact HC0.out); rintro e w' ⟨rfl, ⟨nd, rfl⟩⟩; refine ⟨_, rfl, ?_⟩))
            go_meet
            case rel => exact ⟨_, (true), (by first | rfl | (simp; done) | (simp [*]; done)), H', ⟨by have := HJ3.out; first | omega | exact Nat.le_refl _⟩, ⟨by repeat (first | (with_reducible first | exact HB.out | apply below_alloc | apply pw_below_drewN | apply below_drew1) | exact HB.out)⟩⟩
        case rest =>
          clear HC7
          try clear c1
          try clear p2
          try clear c5
          try clear c5b0
          try clear c5b1
          try clear c6
          try clear c9
          try clear c10
          try clear c11
          try clear p2
          obtain ⟨kq, x28_6, rfl, HA, HJ6, HB⟩ := hcut
          cases kq with
          | zero => exact absurd HA.out (by simp [laws_FnSetLattice.j1])
          | succ kj6 =>
            have H := HA.out
            clear HA
            simp only [laws_FnSetLattice.j1] at H
            by_cases c12 : x28_6 = true
            · subst c12
              have H1 : ((laws_awakeSet.f).bind fun t122 => (some t122)) = some r := by rw [if_pos rfl] at H; exact H
              clear H
              have H := H1
              clear H1
              replace H := Option.bind_eq_some_iff.mp H
              obtain ⟨t122, A130, H⟩ := H
              replace H : (some t122) = some r := H
              have A13 := Aside0.mk A130
              clear A130
              obtain rfl := Option.some.inj H
              go_wp2_with (first | ((with_reducible refine gate_callee (f := 12) rfl ?_); refine goesL_ (some 29) rfl rfl Tryd.func12 (by kernel_rfl) rfl #[] rfl (by (try simp only [List.map_toArray, List.map_cons, List.map_nil]); first | done | rfl | (simp only [List.length_drop, List.length_take]; rfl)) ?_; (with_reducible refine (laws_awakeSet.calls  t122 _ A13.out (HE_.out.below (by repeat (first | (with_reducible first | exact HB.out | apply below_alloc | apply pw_below_drewN | apply below_drew1) | exact HB.out)))).mono ?_); rintro e w14 ⟨rfl, hb⟩; refine ⟨_, rfl, ?_⟩; have n0_ := Aside0.mk (below_step (by repeat (first | (with_reducible first | exact HB.out | apply below_alloc | apply pw_below_drewN | apply below_drew1) | exact HB.out)) hb); clear HB; have HB := n0_; clear n0_; (try clear hb); (try clear hb2); (try clear hk); (try clear hi)))
              go_ret
              exact ⟨by first | rfl | (simp [errW_none, errW_some] <;> rfl) | (simp [*, errW_none, errW_some] <;> rfl) | (simp [errW_none, errW_some]; generalize ByteArray.toList _ = l_; cases l_ <;> rfl), by repeat (first | (with_reducible first | exact HB.out | apply below_alloc | apply pw_below_drewN | apply below_drew1) | exact HB.out)⟩
            · replace c12 := Bool.eq_false_iff.mpr c12
              subst c12
              have H1 : ((impl_SetUnion.f l0 l1 false).bind fun t123 => ((impl_SetUnion.f l1 l0 true).bind fun t126 => ((spec_SameSet.f kj6 t123 t126).bind fun t129 => (if t129 = true then ((impl_SetUnion.f l0 l0 true).bind fun t130 => ((laws_numbers.f l0).bind fun t133 => ((spec_SameSet.f kj6 t130 t133).bind fun t136 => (if t136 = true then ((impl_SetUnion.f l0 ([] : List (S34)) false).bind fun t137 => ((laws_numbers.f l0).bind fun t140 => ((spec_SameSet.f kj6 t137 t140).bind fun t143 => (laws_FnSetLattice.j2 kj6 l0 l1 a2 t123 (!t143))))) else (laws_FnSetLattice.j2 kj6 l0 l1 a2 t123 true))))) else (laws_FnSetLattice.j2 kj6 l0 l1 a2 t123 true))))) = some r := by rw [if_neg (show ¬ (false = true) by decide)] at H; exact H
              clear H
              have H := H1
              clear H1
              replace H := Option.bind_eq_some_iff.mp H
              obtain ⟨t123, A150, H⟩ := H
              replace H : ((impl_SetUnion.f l1 l0 true).bind fun t126 => ((spec_SameSet.f kj6 t123 t126).bind fun t129 => (if t129 = true then ((impl_SetUnion.f l0 l0 true).bind fun t130 => ((laws_numbers.f l0).bind fun t133 => ((spec_SameSet.f kj6 t130 t133).bind fun t136 => (if t136 = true then ((impl_SetUnion.f l0 ([] : List (S34)) false).bind fun t137 => ((laws_numbers.f l0).bind fun t140 => ((spec_SameSet.f kj6 t137 t140).bind fun t143 => (laws_FnSetLattice.j2 kj6 l0 l1 a2 t123 (!t143))))) else (laws_FnSetLattice.j2 kj6 l0 l1 a2 t123 true))))) else (laws_FnSetLattice.j2 kj6 l0 l1 a2 t123 true)))) = some r := H
              have A15 := Aside0.mk A150
              clear A150
              replace H := Option.bind_eq_some_iff.mp H
              obtain ⟨t126, A160, H⟩ := H
              replace H : ((spec_SameSet.f kj6 t123 t126).bind fun t129 => (if t129 = true then ((impl_SetUnion.f l0 l0 true).bind fun t130 => ((laws_numbers.f l0).bind fun t133 => ((spec_SameSet.f kj6 t130 t133).bind fun t136 => (if t136 = true then ((impl_SetUnion.f l0 ([] : List (S34)) false).bind fun t137 => ((laws_numbers.f l0).bind fun t140 => ((spec_SameSet.f kj6 t137 t140).bind fun t143 => (laws_FnSetLattice.j2 kj6 l0 l1 a2 t123 (!t143))))) else (laws_FnSetLattice.j2 kj6 l0 l1 a2 t123 true))))) else (laws_FnSetLattice.j2 kj6 l0 l1 a2 t123 true))) = some r := H
              have A16 := Aside0.mk A160
              clear A160
              have HC17 := Aside0.mk H
              clear H
              go_upto_region 6 with (first | ((with_reducible refine gate_callee (f := 25) rfl ?_); refine goesL_ (some 32) rfl rfl Tryd.func25 (by kernel_rfl) rfl #[.slice A0 l0.length c0, .slice A1 l1.length c1, .bool false] rfl (by (try simp only [List.map_toArray, List.map_cons, List.map_nil]); first | done | rfl | (simp only [List.length_drop, List.length_take]; rfl)) ?_; (with_reducible refine (impl_SetUnion.calls _ _ l0 _ _ l1 false t123 _ ?side1 ?side2 ?side3 ?side4 A15.out (HE_.out.below (by repeat (first | (with_reducible first | exact HB.out | apply below_alloc | apply pw_below_drewN | apply below_drew1) | exact HB.out)))).mono ?_); (case side1 => repeat (first | exact (Kd.C_below HR0.out HB.out) | (with_reducible refine Kd.C_alloc ?_ _) | (with_reducible refine Kd.C_drewN ?_ _) | (with_reducible refine Kd.C_drew ?_))); (case side2 => exact HC0.out); (case side3 => repeat (first | exact (Kd.C_below HR1.out HB.out) | (with_reducible refine Kd.C_alloc ?_ _) | (with_reducible refine Kd.C_drewN ?_ _) | (with_reducible refine Kd.C_drew ?_))); (case side4 => exact HC1.out); rintro e w18 ⟨v124, rfl, ho0, hb⟩; refine ⟨_, rfl, ?_⟩; have n0_ := Aside0.mk (Kd.R_lower ho0 (below_size (by repeat (first | (with_reducible first | exact HB.out | apply below_alloc | apply pw_below_drewN | apply below_drew1) | exact HB.out)))); have n1_ := Aside0.mk (below_step (by repeat (first | (with_reducible first | exact HB.out | apply below_alloc | apply pw_below_drewN | apply below_drew1) | exact HB.out)) hb); clear HB; have HO125 := n0_; have HB := n1_; clear n0_ n1_; (try clear hb); (try clear hb2); (try clear hk); (try clear hi); (try clear ho0)) | ((with_reducible refine gate_callee (f := 25) rfl ?_); refine goesL_ (some 35) rfl rfl Tryd.func25 (by kernel_rfl) rfl #[.slice A1 l1.length c1, .slice A0 l0.length c0, .bool true] rfl (by (try simp only [List.map_toArray, List.map_cons, List.map_nil]); first | done | rfl | (simp only [List.length_drop, List.length_take]; rfl)) ?_; (with_reducible refine (impl_SetUnion.calls _ _ l1 _ _ l0 true t126 _ ?side1 ?side2 ?side3 ?side4 A16.out (HE_.out.below (by repeat (first | (with_reducible first | exact HB.out | apply below_alloc | apply pw_below_drewN | apply below_drew1) | exact HB.out)))).mono ?_); (case side1 => repeat (first | exact (Kd.C_below HR1.out HB.out) | (with_reducible refine Kd.C_alloc ?_ _) | (with_reducible refine Kd.C_drewN ?_ _) | (with_reducible refine Kd.C_drew ?_))); (case side2 => exact HC1.out); (case side3 => repeat (first | exact (Kd.C_below HR0.out HB.out) | (with_reducible refine Kd.C_alloc ?_ _) | (with_reducible refine Kd.C_drewN ?_ _) | (with_reducible refine Kd.C_drew ?_))); (case side4 => exact HC0.out); rintro e w19 ⟨v127, rfl, ho0, hb⟩; refine ⟨_, rfl, ?_⟩; have n0_ := Aside0.mk (Kd.R_elder' (by (with_reducible repeat (first | apply Kd.R_alloc | apply Kd.R_drewN | apply Kd.R_drew)); exact HO125.out) (Kd.R_base ho0) hb); have n1_ := Aside0.mk (Kd.R_lower (Kd.R_new' ho0 (Kd.R_lt (by (with_reducible repeat (first | apply Kd.R_alloc | apply Kd.R_drewN | apply Kd.R_drew)); exact HO125.out))) (below_size (by repeat (first | (with_reducible first | exact HB.out | apply below_alloc | apply pw_below_drewN | apply below_drew1) | exact HB.out)))); have n2_ := Aside0.mk (below_step (by repeat (first | (with_reducible first | exact HB.out | apply below_alloc | apply pw_below_drewN | apply below_drew1) | exact HB.out)) hb); clear HO125; clear HB; have HO125 := n0_; have HO128 := n1_; have HB := n2_; clear n0_ n1_ n2_; (try clear hb); (try clear hb2); (try clear hk); (try clear hi); (try clear ho0)))
              (try simp only [Act.put, List.setIfInBounds_toArray, List.set_cons_zero, List.set_cons_succ])
              go_cut [56] (fun v56 wc => ∃ (kq : Nat) (x56_16 : Bool), v56 = .bool x56_16 ∧ Aside0 (laws_FnSetLattice.j2 kq l0 l1 a2 t123 x56_16 = some r) ∧ Aside0 (kq ≤ kj6) ∧ Aside0 (Kd.R (Kd.int .u64) 32 wc w.heap.size (fun _ => True) v124 t123) ∧ Aside0 (Below w.heap.size w wc))
              case first =>
                have H := HC17.out
                clear HC17
                replace H := Option.bind_eq_some_iff.mp H
                obtain ⟨t129, A200, H⟩ := H
                replace H : (if t129 = true then ((impl_SetUnion.f l0 l0 true).bind fun t130 => ((laws_numbers.f l0).bind fun t133 => ((spec_SameSet.f kj6 t130 t133).bind fun t136 => (if t136 = true then ((impl_SetUnion.f l0 ([] : List (S34)) false).bind fun t137 => ((laws_numbers.f l0).bind fun t140 => ((spec_SameSet.f kj6 t137 t140).bind fun t143 => (laws_FnSetLattice.j2 kj6 l0 l1 a2 t123 (!t143))))) else (laws_FnSetLattice.j2 kj6 l0 l1 a2 t123 true))))) else (laws_FnSetLattice.j2 kj6 l0 l1 a2 t123 true)) = some r := H
                have A20 := Aside0.mk A200
                clear A200
                by_cases c21 : t129 = true
                · subst c21
                  have H1 : ((impl_SetUnion.f l0 l0 true).bind fun t130 => ((laws_numbers.f l0).bind fun t133 => ((spec_SameSet.f kj6 t130 t133).bind fun t136 => (if t136 = true then ((impl_SetUnion.f l0 ([] : List (S34)) false).bind fun t137 => ((laws_numbers.f l0).bind fun t140 => ((spec_SameSet.f kj6 t137 t140).bind fun t143 => (laws_FnSetLattice.j2 kj6 l0 l1 a2 t123 (!t143))))) else (laws_FnSetLattice.j2 kj6 l0 l1 a2 t123 true))))) = some r := by rw [if_pos rfl] at H; exact H
                  clear H
                  have H := H1
                  clear H1
                  replace H := Option.bind_eq_some_iff.mp H
                  obtain ⟨t130, A220, H⟩ := H
                  replace H : ((laws_numbers.f l0).bind fun t133 => ((spec_SameSet.f kj6 t130 t133).bind fun t136 => (if t136 = true then ((impl_SetUnion.f l0 ([] : List (S34)) false).bind fun t137 => ((laws_numbers.f l0).bind fun t140 => ((spec_SameSet.f kj6 t137 t140).bind fun t143 => (laws_FnSetLattice.j2 kj6 l0 l1 a2 t123 (!t143))))) else (laws_FnSetLattice.j2 kj6 l0 l1 a2 t123 true)))) = some r := H
                  have A22 := Aside0.mk A220
                  clear A220
                  replace H := Option.bind_eq_some_iff.mp H
                  obtain ⟨t133, A230, H⟩ := H
                  replace H : ((spec_SameSet.f kj6 t130 t133).bind fun t136 => (if t136 = true then ((impl_SetUnion.f l0 ([] : List (S34)) false).bind fun t137 => ((laws_numbers.f l0).bind fun t140 => ((spec_SameSet.f kj6 t137 t140).bind fun t143 => (laws_FnSetLattice.j2 kj6 l0 l1 a2 t123 (!t143))))) else (laws_FnSetLattice.j2 kj6 l0 l1 a2 t123 true))) = some r := H
                  have A23 := Aside0.mk A230
                  clear A230
                  replace H := Option.bind_eq_some_iff.mp H
                  obtain ⟨t136, A240, H⟩ := H
                  replace H : (if t136 = true then ((impl_SetUnion.f l0 ([] : List (S34)) false).bind fun t137 => ((laws_numbers.f l0).bind fun t140 => ((spec_SameSet.f kj6 t137 t140).bind fun t143 => (laws_FnSetLattice.j2 kj6 l0 l1 a2 t123 (!t143))))) else (laws_FnSetLattice.j2 kj6 l0 l1 a2 t123 true)) = some r := H
                  have A24 := Aside0.mk A240
                  clear A240
                  by_cases c25 : t136 = true
                  · subst c25
                    have H1 : ((impl_SetUnion.f l0 ([] : List (S34)) false).bind fun t137 => ((laws_numbers.f l0).bind fun t140 => ((spec_SameSet.f kj6 t137 t140).bind fun t143 => (laws_FnSetLattice.j2 kj6 l0 l1 a2 t123 (!t143))))) = some r := by rw [if_pos rfl] at H; exact H
                    clear H
                    have H := H1
                    clear H1
                    replace H := Option.bind_eq_some_iff.mp H
                    obtain ⟨t137, A260, H⟩ := H
                    replace H : ((laws_numbers.f l0).bind fun t140 => ((spec_SameSet.f kj6 t137 t140).bind fun t143 => (laws_FnSetLattice.j2 kj6 l0 l1 a2 t123 (!t143)))) = some r := H
                    have A26 := Aside0.mk A260
                    clear A260
                    replace H := Option.bind_eq_some_iff.mp H
                    obtain ⟨t140, A270, H⟩ := H
                    replace H : ((spec_SameSet.f kj6 t137 t140).bind fun t143 => (laws_FnSetLattice.j2 kj6 l0 l1 a2 t123 (!t143))) = some r := H
                    have A27 := Aside0.mk A270
                    clear A270
                    replace H := Option.bind_eq_some_iff.mp H
                    obtain ⟨t143, A280, H⟩ := H
                    replace H : (laws_FnSetLattice.j2 kj6 l0 l1 a2 t123 (!t143)) = some r := H
                    have A28 := Aside0.mk A280
                    clear A280
                    have H' := Aside0.mk H
                    clear H
                    obtain ⟨Ao29, co29, eo29⟩ := Kd.R_slice HO125.out
                    subst eo29
                    obtain ⟨Ao30, co30, eo30⟩ := Kd.R_slice HO128.out
                    subst eo30
                    go_wp2_with (first | ((with_reducible refine gate_callee (f := 14) rfl ?_); refine goesL_ (some 38) rfl rfl Tryd.func14 (by kernel_rfl) rfl #[.slice Ao29 t123.length co29, .slice Ao30 t126.length co30] rfl (by (try simp only [List.map_toArray, List.map_cons, List.map_nil]); first | done | rfl | (simp only [List.length_drop, List.length_take]; rfl)) ?_; (with_reducible refine (spec_SameSet.calls kj6 _ _ t123 _ _ t126 true _ ?side1 ?side2 ?side3 ?side4 A20.out).mono ?_); (case side1 => repeat (first | exact (Kd.R_reads' HO125.out).2.2 | (with_reducible refine Kd.C_alloc ?_ _) | (with_reducible refine Kd.C_drewN ?_ _) | (with_reducible refine Kd.C_drew ?_))); (case side2 => exact (Kd.R_reads' HO125.out).2.1); (case side3 => repeat (first | exact (Kd.R_reads' HO128.out).2.2 | (with_reducible refine Kd.C_alloc ?_ _) | (with_reducible refine Kd.C_drewN ?_ _) | (with_reducible refine Kd.C_drew ?_))); (case side4 => exact (Kd.R_reads' HO128.out).2.1); rintro e w' ⟨rfl, ⟨nd, rfl⟩⟩; refine ⟨_, rfl, ?_⟩) | (go_at_call 25; (with_reducible refine (impl_SetUnion.calls _ _ l0 _ _ l0 true t130 _ ?side1 ?side2 ?side3 ?side4 A22.out (HE_.out.below (by repeat (first | (with_reducible first | exact HB.out | apply below_alloc | apply pw_below_drewN | apply below_drew1) | exact HB.out)))).mono ?_); (case side1 => repeat (first | exact (Kd.C_below HR0.out (by repeat (first | (with_reducible first | exact HB.out | apply below_alloc | apply pw_below_drewN | apply below_drew1) | exact HB.out))) | (with_reducible refine Kd.C_alloc ?_ _) | (with_reducible refine Kd.C_drewN ?_ _) | (with_reducible refine Kd.C_drew ?_))); (case side2 => exact HC0.out); (case side3 => repeat (first | exact (Kd.C_below HR0.out (by repeat (first | (with_reducible first | exact HB.out | apply below_alloc | apply pw_below_drewN | apply below_drew1) | exact HB.out))) | (with_reducible refine Kd.C_alloc ?_ _) | (with_reducible refine Kd.C_drewN ?_ _) | (with_reducible refine Kd.C_drew ?_))); (case side4 => exact HC0.out); rintro e w31 ⟨v131, rfl, ho0, hb⟩; have n0_ := Aside0.mk (Kd.R_elder' (by (with_reducible repeat (first | apply Kd.R_alloc | apply Kd.R_drewN | apply Kd.R_drew)); exact HO125.out) (Kd.R_base ho0) hb); have n1_ := Aside0.mk (Kd.R_elder' (by (with_reducible repeat (first | apply Kd.R_alloc | apply Kd.R_drewN | apply Kd.R_drew)); exact HO128.out) (Kd.R_base ho0) hb); have n2_ := Aside0.mk (Kd.R_lower (Kd.R_new' (Kd.R_new' ho0 (Kd.R_lt (by (with_reducible repeat (first | apply Kd.R_alloc | apply Kd.R_drewN | apply Kd.R_drew)); exact HO125.out))) (Kd.R_lt (by (with_reducible repeat (first | apply Kd.R_alloc | apply Kd.R_drewN | apply Kd.R_drew)); exact HO128.out))) (below_size (by repeat (first | (with_reducible first | exact HB.out | apply below_alloc | apply pw_below_drewN | apply below_drew1) | exact HB.out)))); have n3_ := Aside0.mk (below_step (by repeat (first | (with_reducible first | exact HB.out | apply below_alloc | apply pw_below_drewN | apply below_drew1) | exact HB.out)) hb); clear HO125; clear HO128; clear HB; have HO125 := n0_; have HO128 := n1_; have HO132 := n2_; have HB := n3_; clear n0_ n1_ n2_ n3_; (try clear hb); (try clear hb2); (try clear hk); (try clear hi); (try clear ho0)) | (go_at_call 24; (with_reducible refine (laws_numbers.calls _ _ l0 t133 _ ?side1 ?side2 A23.out (HE_.out.below (by repeat (first | (with_reducible first | exact HB.out | apply below_alloc | apply pw_below_drewN | apply below_drew1) | exact HB.out)))).mono ?_); (case side1 => repeat (first | exact (Kd.C_below HR0.out HB.out) | (with_reducible refine Kd.C_alloc ?_ _) | (with_reducible refine Kd.C_drewN ?_ _) | (with_reducible refine Kd.C_drew ?_))); (case side2 => exact HC0.out); rintro e w32 ⟨v134, rfl, ho0, hb⟩; have n0_ := Aside0.mk (Kd.R_elder' (by (with_reducible repeat (first | apply Kd.R_alloc | apply Kd.R_drewN | apply Kd.R_drew)); exact HO125.out) (Kd.R_base ho0) hb); have n1_ := Aside0.mk (Kd.R_elder' (by (with_reducible repeat (first | apply Kd.R_alloc | apply Kd.R_drewN | apply Kd.R_drew)); exact HO128.out) (Kd.R_base ho0) hb); have n2_ := Aside0.mk (Kd.R_elder' (by (with_reducible repeat (first | apply Kd.R_alloc | apply Kd.R_drewN | apply Kd.R_drew)); exact HO132.out) (Kd.R_base ho0) hb); have n3_ := Aside0.mk (Kd.R_lower (Kd.R_new' (Kd.R_new' (Kd.R_new' ho0 (Kd.R_lt (by (with_reducible repeat (first | apply Kd.R_alloc | apply Kd.R_drewN | apply Kd.R_drew)); exact HO125.out))) (Kd.R_lt (by (with_reducible repeat (first | apply Kd.R_alloc | apply Kd.R_drewN | apply Kd.R_drew)); exact HO128.out))) (Kd.R_lt (by (with_reducible repeat (first | apply Kd.R_alloc | apply Kd.R_drewN | apply Kd.R_drew)); exact HO132.out))) (below_size (by repeat (first | (with_reducible first | exact HB.out | apply below_alloc | apply pw_below_drewN | apply below_drew1) | exact HB.out)))); have n4_ := Aside0.mk (below_step (by repeat (first | (with_reducible first | exact HB.out | apply below_alloc | apply pw_below_drewN | apply below_drew1) | exact HB.out)) hb); clear HO125; clear HO128; clear HO132; clear HB; have HO125 := n0_; have HO128 := n1_; have HO132 := n2_; have HO135 := n3_; have HB := n4_; clear n0_ n1_ n2_ n3_ n4_; (try clear hb); (try clear hb2); (try clear hk); (try clear hi); (try clear ho0); obtain ⟨Ao33, co33, eo33⟩ := Kd.R_slice HO132.out; subst eo33; obtain ⟨Ao34, co34, eo34⟩ := Kd.R_slice HO135.out; subst eo34) | (go_at_call 14; (with_reducible refine (spec_SameSet.calls kj6 _ _ t130 _ _ t133 true _ ?side1 ?side2 ?side3 ?side4 A24.out).mono ?_); (case side1 => repeat (first | exact (Kd.R_reads' HO132.out).2.2 | (with_reducible refine Kd.C_alloc ?_ _) | (with_reducible refine Kd.C_drewN ?_ _) | (with_reducible refine Kd.C_drew ?_))); (case side2 => exact (Kd.R_reads' HO132.out).2.1); (case side3 => repeat (first | exact (Kd.R_reads' HO135.out).2.2 | (with_reducible refine Kd.C_alloc ?_ _) | (with_reducible refine Kd.C_drewN ?_ _) | (with_reducible refine Kd.C_drew ?_))); (case side4 => exact (Kd.R_reads' HO135.out).2.1); rintro e w' ⟨rfl, ⟨nd, rfl⟩⟩) | (go_at_call 25; (refine (impl_SetUnion.calls _ _ l0 _ _ ([] : List (S34)) false t137 _ ?side1 ?side2 ?side3 ?side4 A26.out (HE_.out.below (by repeat (first | (with_reducible first | exact HB.out | apply below_alloc | apply pw_below_drewN | apply below_drew1) | exact HB.out)))).mono ?_); (case side1 => repeat (first | exact (Kd.C_below HR0.out (by repeat (first | (with_reducible first | exact HB.out | apply below_alloc | apply pw_below_drewN | apply below_drew1) | exact HB.out))) | (with_reducible refine Kd.C_alloc ?_ _) | (with_reducible refine Kd.C_drewN ?_ _) | (with_reducible refine Kd.C_drew ?_))); (case side2 => exact HC0.out); (case side3 => exact Kd.C_nil _ _); (case side4 => exact Nat.le_refl _); rintro e w35 ⟨v138, rfl, ho0, hb⟩; have n0_ := Aside0.mk (Kd.R_elder' (by (with_reducible repeat (first | apply Kd.R_alloc | apply Kd.R_drewN | apply Kd.R_drew)); exact HO125.out) (Kd.R_base ho0) hb); have n1_ := Aside0.mk (Kd.R_elder' (by (with_reducible repeat (first | apply Kd.R_alloc | apply Kd.R_drewN | apply Kd.R_drew)); exact HO128.out) (Kd.R_base ho0) hb); have n2_ := Aside0.mk (Kd.R_elder' (by (with_reducible repeat (first | apply Kd.R_alloc | apply Kd.R_drewN | apply Kd.R_drew)); exact HO132.out) (Kd.R_base ho0) hb); have n3_ := Aside0.mk (Kd.R_elder' (by (with_reducible repeat (first | apply Kd.R_alloc | apply Kd.R_drewN | apply Kd.R_drew)); exact HO135.out) (Kd.R_base ho0) hb); have n4_ := Aside0.mk (Kd.R_lower (Kd.R_new' (Kd.R_new' (Kd.R_new' (Kd.R_new' ho0 (Kd.R_lt (by (with_reducible repeat (first | apply Kd.R_alloc | apply Kd.R_drewN | apply Kd.R_drew)); exact HO125.out))) (Kd.R_lt (by (with_reducible repeat (first | apply Kd.R_alloc | apply Kd.R_drewN | apply Kd.R_drew)); exact HO128.out))) (Kd.R_lt (by (with_reducible repeat (first | apply Kd.R_alloc | apply Kd.R_drewN | apply Kd.R_drew)); exact HO132.out))) (Kd.R_lt (by (with_reducible repeat (first | apply Kd.R_alloc | apply Kd.R_drewN | apply Kd.R_drew)); exact HO135.out))) (below_size (by repeat (first | (with_reducible first | exact HB.out | apply below_alloc | apply pw_below_drewN | apply below_drew1) | exact HB.out)))); have n5_ := Aside0.mk (below_step (by repeat (first | (with_reducible first | exact HB.out | apply below_alloc | apply pw_below_drewN | apply below_drew1) | exact HB.out)) hb); clear HO125; clear HO128; clear HO132; clear HO135; clear HB; have HO125 := n0_; have HO128 := n1_; have HO132 := n2_; have HO135 := n3_; have HO139 := n4_; have HB := n5_; clear n0_ n1_ n2_ n3_ n4_ n5_; (try clear hb); (try clear hb2); (try clear hk); (try clear hi); (try clear ho0)) | (go_at_call 24; (with_reducible refine (laws_numbers.calls _ _ l0 t140 _ ?side1 ?side2 A27.out (HE_.out.below (by repeat (first | (with_reducible first | exact HB.out | apply below_alloc | apply pw_below_drewN | apply below_drew1) | exact HB.out)))).mono ?_); (case side1 => repeat (first | exact (Kd.C_below HR0.out HB.out) | (with_reducible refine Kd.C_alloc ?_ _) | (with_reducible refine Kd.C_drewN ?_ _) | (with_reducible refine Kd.C_drew ?_))); (case side2 => exact HC0.out); rintro e w36 ⟨v141, rfl, ho0, hb⟩; have n0_ := Aside0.mk (Kd.R_elder' (by (with_reducible repeat (first | apply Kd.R_alloc | apply Kd.R_drewN | apply Kd.R_drew)); exact HO125.out) (Kd.R_base ho0) hb); have n1_ := Aside0.mk (Kd.R_elder' (by (with_reducible repeat (first | apply Kd.R_alloc | apply Kd.R_drewN | apply Kd.R_drew)); exact HO128.out) (Kd.R_base ho0) hb); have n2_ := Aside0.mk (Kd.R_elder' (by (with_reducible repeat (first | apply Kd.R_alloc | apply Kd.R_drewN | apply Kd.R_drew)); exact HO132.out) (Kd.R_base ho0) hb); have n3_ := Aside0.mk (Kd.R_elder' (by (with_reducible repeat (first | apply Kd.R_alloc | apply Kd.R_drewN | apply Kd.R_drew)); exact HO135.out) (Kd.R_base ho0) hb); have n4_ := Aside0.mk (Kd.R_elder' (by (with_reducible repeat (first | apply Kd.R_alloc | apply Kd.R_drewN | apply Kd.R_drew)); exact HO139.out) (Kd.R_base ho0) hb); have n5_ := Aside0.mk (Kd.R_lower (Kd.R_new' (Kd.R_new' (Kd.R_new' (Kd.R_new' (Kd.R_new' ho0 (Kd.R_lt (by (with_reducible repeat (first | apply Kd.R_alloc | apply Kd.R_drewN | apply Kd.R_drew)); exact HO125.out))) (Kd.R_lt (by (with_reducible repeat (first | apply Kd.R_alloc | apply Kd.R_drewN | apply Kd.R_drew)); exact HO128.out))) (Kd.R_lt (by (with_reducible repeat (first | apply Kd.R_alloc | apply Kd.R_drewN | apply Kd.R_drew)); exact HO132.out))) (Kd.R_lt (by (with_reducible repeat (first | apply Kd.R_alloc | apply Kd.R_drewN | apply Kd.R_drew)); exact HO135.out))) (Kd.R_lt (by (with_reducible repeat (first | apply Kd.R_alloc | apply Kd.R_drewN | apply Kd.R_drew)); exact HO139.out))) (below_size (by repeat (first | (with_reducible first | exact HB.out | apply below_alloc | apply pw_below_drewN | apply below_drew1) | exact HB.out)))); have n6_ := Aside0.mk (below_step (by repeat (first | (with_reducible first | exact HB.out | apply below_alloc | apply pw_below_drewN | apply below_drew1) | exact HB.out)) hb); clear HO125; clear HO128; clear HO132; clear HO135; clear HO139; clear HB; have HO125 := n0_; have HO128 := n1_; have HO132 := n2_; have HO135 := n3_; have HO139 := n4_; have HO142 := n5_; have HB := n6_; clear n0_ n1_ n2_ n3_ n4_ n5_ n6_; (try clear hb); (try clear hb2); (try clear hk); (try clear hi); (try clear ho0); obtain ⟨Ao37, co37, eo37⟩ := Kd.R_slice HO139.out; subst eo37; obtain ⟨Ao38, co38, eo38⟩ := Kd.R_slice HO142.out; subst eo38) | (go_at_call 14; (with_reducible refine (spec_SameSet.calls kj6 _ _ t137 _ _ t140 t143 _ ?side1 ?side2 ?side3 ?side4 A28.out).mono ?_); (case side1 => repeat (first | exact (Kd.R_reads' HO139.out).2.2 | (with_reducible refine Kd.C_alloc ?_ _) | (with_reducible refine Kd.C_drewN ?_ _) | (with_reducible refine Kd.C_drew ?_))); (case side2 => exact (Kd.R_reads' HO139.out).2.1); (case side3 => repeat (first | exact (Kd.R_reads' HO142.out).2.2 | (with_reducible refine Kd.C_alloc ?_ _) | (with_reducible refine Kd.C_drewN ?_ _) | (with_reducible refine Kd.C_drew ?_))); (case side4 => exact (Kd.R_reads' HO142.out).2.1); rintro e w' ⟨rfl, ⟨nd, rfl⟩⟩))
                    go_meet
                    case rel => exact ⟨_, (!t143), (by first | rfl | (simp; done) | (simp [*]; done)), H', ⟨by have := HJ3.out; have := HJ6.out; first | omega | exact Nat.le_refl _⟩, ⟨by (with_reducible repeat (first | apply Kd.R_alloc | apply Kd.R_drewN | apply Kd.R_drew)); exact Kd.R_mono HO125.out (fun _ hk => trivial)⟩, ⟨by repeat (first | (with_reducible first | exact HB.out | apply below_alloc | apply pw_below_drewN | apply below_drew1) | exact HB.out)⟩⟩
                  · replace c25 := Bool.eq_false_iff.mpr c25
                    subst c25
                    have H1 : (laws_FnSetLattice.j2 kj6 l0 l1 a2 t123 true) = some r := by rw [if_neg (show ¬ (false = true) by decide)] at H; exact H
                    clear H
                    have H := H1
                    clear H1
                    have H' := Aside0.mk H
                    clear H
                    obtain ⟨Ao39, co39, eo39⟩ := Kd.R_slice HO125.out
                    subst eo39
                    obtain ⟨Ao40, co40, eo40⟩ := Kd.R_slice HO128.out
                    subst eo40
                    go_wp2_with (first | ((with_reducible refine gate_callee (f := 14) rfl ?_); refine goesL_ (some 38) rfl rfl Tryd.func14 (by kernel_rfl) rfl #[.slice Ao39 t123.length co39, .slice Ao40 t126.length co40] rfl (by (try simp only [List.map_toArray, List.map_cons, List.map_nil]); first | done | rfl | (simp only [List.length_drop, List.length_take]; rfl)) ?_; (with_reducible refine (spec_SameSet.calls kj6 _ _ t123 _ _ t126 true _ ?side1 ?side2 ?side3 ?side4 A20.out).mono ?_); (case side1 => repeat (first | exact (Kd.R_reads' HO125.out).2.2 | (with_reducible refine Kd.C_alloc ?_ _) | (with_reducible refine Kd.C_drewN ?_ _) | (with_reducible refine Kd.C_drew ?_))); (case side2 => exact (Kd.R_reads' HO125.out).2.1); (case side3 => repeat (first | exact (Kd.R_reads' HO128.out).2.2 | (with_reducible refine Kd.C_alloc ?_ _) | (with_reducible refine Kd.C_drewN ?_ _) | (with_reducible refine Kd.C_drew ?_))); (case side4 => exact (Kd.R_reads' HO128.out).2.1); rintro e w' ⟨rfl, ⟨nd, rfl⟩⟩; refine ⟨_, rfl, ?_⟩) | (go_at_call 25; (with_reducible refine (impl_SetUnion.calls _ _ l0 _ _ l0 true t130 _ ?side1 ?side2 ?side3 ?side4 A22.out (HE_.out.below (by repeat (first | (with_reducible first | exact HB.out | apply below_alloc | apply pw_below_drewN | apply below_drew1) | exact HB.out)))).mono ?_); (case side1 => repeat (first | exact (Kd.C_below HR0.out (by repeat (first | (with_reducible first | exact HB.out | apply below_alloc | apply pw_below_drewN | apply below_drew1) | exact HB.out))) | (with_reducible refine Kd.C_alloc ?_ _) | (with_reducible refine Kd.C_drewN ?_ _) | (with_reducible refine Kd.C_drew ?_))); (case side2 => exact HC0.out); (case side3 => repeat (first | exact (Kd.C_below HR0.out (by repeat (first | (with_reducible first | exact HB.out | apply below_alloc | apply pw_below_drewN | apply below_drew1) | exact HB.out))) | (with_reducible refine Kd.C_alloc ?_ _) | (with_reducible refine Kd.C_drewN ?_ _) | (with_reducible refine Kd.C_drew ?_))); (case side4 => exact HC0.out); rintro e w41 ⟨v131, rfl, ho0, hb⟩; have n0_ := Aside0.mk (Kd.R_elder' (by (with_reducible repeat (first | apply Kd.R_alloc | apply Kd.R_drewN | apply Kd.R_drew)); exact HO125.out) (Kd.R_base ho0) hb); have n1_ := Aside0.mk (Kd.R_elder' (by (with_reducible repeat (first | apply Kd.R_alloc | apply Kd.R_drewN | apply Kd.R_drew)); exact HO128.out) (Kd.R_base ho0) hb); have n2_ := Aside0.mk (Kd.R_lower (Kd.R_new' (Kd.R_new' ho0 (Kd.R_lt (by (with_reducible repeat (first | apply Kd.R_alloc | apply Kd.R_drewN | apply Kd.R_drew)); exact HO125.out))) (Kd.R_lt (by (with_reducible repeat (first | apply Kd.R_alloc | apply Kd.R_drewN | apply Kd.R_drew)); exact HO128.out))) (below_size (by repeat (first | (with_reducible first | exact HB.out | apply below_alloc | apply pw_below_drewN | apply below_drew1) | exact HB.out)))); have n3_ := Aside0.mk (below_step (by repeat (first | (with_reducible first | exact HB.out | apply below_alloc | apply pw_below_drewN | apply below_drew1) | exact HB.out)) hb); clear HO125; clear HO128; clear HB; have HO125 := n0_; have HO128 := n1_; have HO132 := n2_; have HB := n3_; clear n0_ n1_ n2_ n3_; (try clear hb); (try clear hb2); (try clear hk); (try clear hi); (try clear ho0)) | (go_at_call 24; (with_reducible refine (laws_numbers.calls _ _ l0 t133 _ ?side1 ?side2 A23.out (HE_.out.below (by repeat (first | (with_reducible first | exact HB.out | apply below_alloc | apply pw_below_drewN | apply below_drew1) | exact HB.out)))).mono ?_); (case side1 => repeat (first | exact (Kd.C_below HR0.out HB.out) | (with_reducible refine Kd.C_alloc ?_ _) | (with_reducible refine Kd.C_drewN ?_ _) | (with_reducible refine Kd.C_drew ?_))); (case side2 => exact HC0.out); rintro e w42 ⟨v134, rfl, ho0, hb⟩; have n0_ := Aside0.mk (Kd.R_elder' (by (with_reducible repeat (first | apply Kd.R_alloc | apply Kd.R_drewN | apply Kd.R_drew)); exact HO125.out) (Kd.R_base ho0) hb); have n1_ := Aside0.mk (Kd.R_elder' (by (with_reducible repeat (first | apply Kd.R_alloc | apply Kd.R_drewN | apply Kd.R_drew)); exact HO128.out) (Kd.R_base ho0) hb); have n2_ := Aside0.mk (Kd.R_elder' (by (with_reducible repeat (first | apply Kd.R_alloc | apply Kd.R_drewN | apply Kd.R_drew)); exact HO132.out) (Kd.R_base ho0) hb); have n3_ := Aside0.mk (Kd.R_lower (Kd.R_new' (Kd.R_new' (Kd.R_new' ho0 (Kd.R_lt (by (with_reducible repeat (first | apply Kd.R_alloc | apply Kd.R_drewN | apply Kd.R_drew)); exact HO125.out))) (Kd.R_lt (by (with_reducible repeat (first | apply Kd.R_alloc | apply Kd.R_drewN | apply Kd.R_drew)); exact HO128.out))) (Kd.R_lt (by (with_reducible repeat (first | apply Kd.R_alloc | apply Kd.R_drewN | apply Kd.R_drew)); exact HO132.out))) (below_size (by repeat (first | (with_reducible first | exact HB.out | apply below_alloc | apply pw_below_drewN | apply below_drew1) | exact HB.out)))); have n4_ := Aside0.mk (below_step (by repeat (first | (with_reducible first | exact HB.out | apply below_alloc | apply pw_below_drewN | apply below_drew1) | exact HB.out)) hb); clear HO125; clear HO128; clear HO132; clear HB; have HO125 := n0_; have HO128 := n1_; have HO132 := n2_; have HO135 := n3_; have HB := n4_; clear n0_ n1_ n2_ n3_ n4_; (try clear hb); (try clear hb2); (try clear hk); (try clear hi); (try clear ho0); obtain ⟨Ao43, co43, eo43⟩ := Kd.R_slice HO132.out; subst eo43; obtain ⟨Ao44, co44, eo44⟩ := Kd.R_slice HO135.out; subst eo44) | (go_at_call 14; (with_reducible refine (spec_SameSet.calls kj6 _ _ t130 _ _ t133 false _ ?side1 ?side2 ?side3 ?side4 A24.out).mono ?_); (case side1 => repeat (first | exact (Kd.R_reads' HO132.out).2.2 | (with_reducible refine Kd.C_alloc ?_ _) | (with_reducible refine Kd.C_drewN ?_ _) | (with_reducible refine Kd.C_drew ?_))); (case side2 => exact (Kd.R_reads' HO132.out).2.1); (case side3 => repeat (first | exact (Kd.R_reads' HO135.out).2.2 | (with_reducible refine Kd.C_alloc ?_ _) | (with_reducible refine Kd.C_drewN ?_ _) | (with_reducible refine Kd.C_drew ?_))); (case side4 => exact (Kd.R_reads' HO135.out).2.1); rintro e w' ⟨rfl, ⟨nd, rfl⟩⟩))
                    go_meet
                    case rel => exact ⟨_, (true), (by first | rfl | (simp; done) | (simp [*]; done)), H', ⟨by have := HJ3.out; have := HJ6.out; first | omega | exact Nat.le_refl _⟩, ⟨by (with_reducible repeat (first | apply Kd.R_alloc | apply Kd.R_drewN | apply Kd.R_drew)); exact Kd.R_mono HO125.out (fun _ hk => trivial)⟩, ⟨by repeat (first | (with_reducible first | exact HB.out | apply below_alloc | apply pw_below_drewN | apply below_drew1) | exact HB.out)⟩⟩
                · replace c21 := Bool.eq_false_iff.mpr c21
                  subst c21
                  have H1 : (laws_FnSetLattice.j2 kj6 l0 l1 a2 t123 true) = some r := by rw [if_neg (show ¬ (false = true) by decide)] at H; exact H
                  clear H
                  have H := H1
                  clear H1
                  have H' := Aside0.mk H
                  clear H
                  obtain ⟨Ao45, co45, eo45⟩ := Kd.R_slice HO125.out
                  subst eo45
                  obtain ⟨Ao46, co46, eo46⟩ := Kd.R_slice HO128.out
                  subst eo46
                  go_wp2_with (first | ((with_reducible refine gate_callee (f := 14) rfl ?_); refine goesL_ (some 38) rfl rfl Tryd.func14 (by kernel_rfl) rfl #[.slice Ao45 t123.length co45, .slice Ao46 t126.length co46] rfl (by (try simp only [List.map_toArray, List.map_cons, List.map_nil]); first | done | rfl | (simp only [List.length_drop, List.length_take]; rfl)) ?_; (with_reducible refine (spec_SameSet.calls kj6 _ _ t123 _ _ t126 false _ ?side1 ?side2 ?side3 ?side4 A20.out).mono ?_); (case side1 => repeat (first | exact (Kd.R_reads' HO125.out).2.2 | (with_reducible refine Kd.C_alloc ?_ _) | (with_reducible refine Kd.C_drewN ?_ _) | (with_reducible refine Kd.C_drew ?_))); (case side2 => exact (Kd.R_reads' HO125.out).2.1); (case side3 => repeat (first | exact (Kd.R_reads' HO128.out).2.2 | (with_reducible refine Kd.C_alloc ?_ _) | (with_reducible refine Kd.C_drewN ?_ _) | (with_reducible refine Kd.C_drew ?_))); (case side4 => exact (Kd.R_reads' HO128.out).2.1); rintro e w' ⟨rfl, ⟨nd, rfl⟩⟩; refine ⟨_, rfl, ?_⟩))
                  go_meet
                  case rel => exact ⟨_, (true), (by first | rfl | (simp; done) | (simp [*]; done)), H', ⟨by have := HJ3.out; have := HJ6.out; first | omega | exact Nat.le_refl _⟩, ⟨by (with_reducible repeat (first | apply Kd.R_alloc | apply Kd.R_drewN | apply Kd.R_drew)); exact Kd.R_mono HO125.out (fun _ hk => trivial)⟩, ⟨by repeat (first | (with_reducible first | exact HB.out | apply below_alloc | apply pw_below_drewN | apply below_drew1) | exact HB.out)⟩⟩
              case rest =>
                clear HC17
                try clear c1
                try clear c2
                try clear p2
                try clear c5
                try clear c5b0
                try clear c5b1
                try clear c6
                try clear c9
                try clear c10
                try clear c11
                try clear c12
                try clear c14
                try clear c21
                try clear c25
                try clear p2
                obtain ⟨kq, x56_16, rfl, HA, HJ16, HO_7, HB⟩ := hcut
                cases kq with
                | zero => exact absurd HA.out (by simp [laws_FnSetLattice.j2])
                | succ kj16 =>
                  have H := HA.out
                  clear HA
                  simp only [laws_FnSetLattice.j2] at H
                  by_cases c47 : x56_16 = true
                  · subst c47
                    have H1 : (some false) = some r := by rw [if_pos rfl] at H; exact H
                    clear H
                    have H := H1
                    clear H1
                    obtain rfl := Option.some.inj H
                    go_wp2
                    go_ret
                    exact ⟨by first | rfl | (simp [errW_none, errW_some] <;> rfl) | (simp [*, errW_none, errW_some] <;> rfl) | (simp [errW_none, errW_some]; generalize ByteArray.toList _ = l_; cases l_ <;> rfl), by repeat (first | (with_reducible first | exact HB.out | apply below_alloc | apply pw_below_drewN | apply below_drew1) | exact HB.out)⟩
                  · replace c47 := Bool.eq_false_iff.mpr c47
                    subst c47
                    have H1 : ((spec_In.f kj16 t123 a2).bind fun t144 => ((impl_SetExists.f l0 a2).bind fun t145 => (if t145 = true then (if (t144 == true) = true then ((laws_awakeSet.f).bind fun t146 => (some t146)) else (some false)) else ((impl_SetExists.f l1 a2).bind fun t147 => (if (t144 == t147) = true then ((laws_awakeSet.f).bind fun t148 => (some t148)) else (some false)))))) = some r := by rw [if_neg (show ¬ (false = true) by decide)] at H; exact H
                    clear H
                    have H := H1
                    clear H1
                    replace H := Option.bind_eq_some_iff.mp H
                    obtain ⟨t144, A480, H⟩ := H
                    replace H : ((impl_SetExists.f l0 a2).bind fun t145 => (if t145 = true then (if (t144 == true) = true then ((laws_awakeSet.f).bind fun t146 => (some t146)) else (some false)) else ((impl_SetExists.f l1 a2).bind fun t147 => (if (t144 == t147) = true then ((laws_awakeSet.f).bind fun t148 => (some t148)) else (some false))))) = some r := H
                    have A48 := Aside0.mk A480
                    clear A480
                    replace H := Option.bind_eq_some_iff.mp H
                    obtain ⟨t145, A490, H⟩ := H
                    replace H : (if t145 = true then (if (t144 == true) = true then ((laws_awakeSet.f).bind fun t146 => (some t146)) else (some false)) else ((impl_SetExists.f l1 a2).bind fun t147 => (if (t144 == t147) = true then ((laws_awakeSet.f).bind fun t148 => (some t148)) else (some false)))) = some r := H
                    have A49 := Aside0.mk A490
                    clear A490
                    by_cases c50 : t145 = true
                    · subst c50
                      have H1 : (if (t144 == true) = true then ((laws_awakeSet.f).bind fun t146 => (some t146)) else (some false)) = some r := by rw [if_pos rfl] at H; exact H
                      clear H
                      have H := H1
                      clear H1
                      by_cases c51 : (t144 == true) = true
                      · rw [if_pos c51] at H
                        have c51b0 : (t144 == true) = true := c51
                        (try (have c51b1 : decide (t144 = true) = true := by simpa using c51))
                        (try (have c51b2 : (t144 == true) = true := by simpa using c51))
                        clear c51
                        replace H := Option.bind_eq_some_iff.mp H
                        obtain ⟨t146, A520, H⟩ := H
                        replace H : (some t146) = some r := H
                        have A52 := Aside0.mk A520
                        clear A520
                        obtain rfl := Option.some.inj H
                        obtain ⟨Ao53, co53, eo53⟩ := Kd.R_slice HO_7.out
                        subst eo53
                        go_wp2_with (first | ((with_reducible refine gate_callee (f := 27) rfl ?_); refine goesL_ (some 59) rfl rfl Tryd.func27 (by kernel_rfl) rfl #[.slice Ao53 t123.length co53, .int .u64 a2] rfl (by (try simp only [List.map_toArray, List.map_cons, List.map_nil]); first | done | rfl | (simp only [List.length_drop, List.length_take]; rfl)) ?_; (with_reducible refine (spec_In.calls kj16 _ _ t123 a2 t144 _ ?side1 ?side2 A48.out).mono ?_); (case side1 => repeat (first | exact (Kd.R_reads' HO_7.out).2.2 | (with_reducible refine Kd.C_alloc ?_ _) | (with_reducible refine Kd.C_drewN ?_ _) | (with_reducible refine Kd.C_drew ?_))); (case side2 => exact (Kd.R_reads' HO_7.out).2.1); rintro e w' ⟨rfl, ⟨nd, rfl⟩⟩; refine ⟨_, rfl, ?_⟩) | ((with_reducible refine gate_callee (f := 28) rfl ?_); refine goesL_ (some 62) rfl rfl Tryd.func28 (by kernel_rfl) rfl #[.slice A0 l0.length c0, .int .u64 a2] rfl (by (try simp only [List.map_toArray, List.map_cons, List.map_nil]); first | done | rfl | (simp only [List.length_drop, List.length_take]; rfl)) ?_; (with_reducible refine (impl_SetExists.calls _ _ l0 a2 true _ ?side1 ?side2 A49.out).mono ?_); (case side1 => repeat (first | exact (Kd.C_below HR0.out (by repeat (first | (with_reducible first | exact HB.out | apply below_alloc | apply pw_below_drewN | apply below_drew1) | exact HB.out))) | (with_reducible refine Kd.C_alloc ?_ _) | (with_reducible refine Kd.C_drewN ?_ _) | (with_reducible refine Kd.C_drew ?_))); (case side2 => exact HC0.out); rintro e w54 ⟨rfl, hb⟩; refine ⟨_, rfl, ?_⟩; have n0_ := Aside0.mk (Kd.R_below (by (with_reducible repeat (first | apply Kd.R_alloc | apply Kd.R_drewN | apply Kd.R_drew)); exact HO_7.out) hb); have n1_ := Aside0.mk (below_step (by repeat (first | (with_reducible first | exact HB.out | apply below_alloc | apply pw_below_drewN | apply below_drew1) | exact HB.out)) hb); clear HO_7; clear HB; have HO_7 := n0_; have HB := n1_; clear n0_ n1_; (try clear hb); (try clear hb2); (try clear hk); (try clear hi)) | (go_at_call 12; (with_reducible refine (laws_awakeSet.calls  t146 _ A52.out (HE_.out.below (by repeat (first | (with_reducible first | exact HB.out | apply below_alloc | apply pw_below_drewN | apply below_drew1) | exact HB.out)))).mono ?_); rintro e w55 ⟨rfl, hb⟩; have n0_ := Aside0.mk (Kd.R_below (by (with_reducible repeat (first | apply Kd.R_alloc | apply Kd.R_drewN | apply Kd.R_drew)); exact HO_7.out) hb); have n1_ := Aside0.mk (below_step (by repeat (first | (with_reducible first | exact HB.out | apply below_alloc | apply pw_below_drewN | apply below_drew1) | exact HB.out)) hb); clear HO_7; clear HB; have HO_7 := n0_; have HB := n1_; clear n0_ n1_; (try clear hb); (try clear hb2); (try clear hk); (try clear hi)))
                        go_ret
                        exact ⟨by first | rfl | (simp [errW_none, errW_some] <;> rfl) | (simp [*, errW_none, errW_some] <;> rfl) | (simp [errW_none, errW_some]; generalize ByteArray.toList _ = l_; cases l_ <;> rfl), by repeat (first | (with_reducible first | exact HB.out | apply below_alloc | apply pw_below_drewN | apply below_drew1) | exact HB.out)⟩
                      · rw [if_neg c51] at H
                        have c51b0 : (t144 == true) = false := by simpa using c51
                        (try (have c51b1 : decide (t144 = true) = false := by simpa using c51))
                        (try (have c51b2 : (t144 == true) = false := by simpa using c51))
                        (try (have c51b3 : ¬ (t144 = true) := by simpa using c51))
                        clear c51
                        obtain rfl := Option.some.inj H
                        obtain ⟨Ao56, co56, eo56⟩ := Kd.R_slice HO_7.out
                        subst eo56
                        go_wp2_with (first | ((with_reducible refine gate_callee (f := 27) rfl ?_); refine goesL_ (some 59) rfl rfl Tryd.func27 (by kernel_rfl) rfl #[.slice Ao56 t123.length co56, .int .u64 a2] rfl (by (try simp only [List.map_toArray, List.map_cons, List.map_nil]); first | done | rfl | (simp only [List.length_drop, List.length_take]; rfl)) ?_; (with_reducible refine (spec_In.calls kj16 _ _ t123 a2 t144 _ ?side1 ?side2 A48.out).mono ?_); (case side1 => repeat (first | exact (Kd.R_reads' HO_7.out).2.2 | (with_reducible refine Kd.C_alloc ?_ _) | (with_reducible refine Kd.C_drewN ?_ _) | (with_reducible refine Kd.C_drew ?_))); (case side2 => exact (Kd.R_reads' HO_7.out).2.1); rintro e w' ⟨rfl, ⟨nd, rfl⟩⟩; refine ⟨_, rfl, ?_⟩) | ((with_reducible refine gate_callee (f := 28) rfl ?_); refine goesL_ (some 62) rfl rfl Tryd.func28 (by kernel_rfl) rfl #[.slice A0 l0.length c0, .int .u64 a2] rfl (by (try simp only [List.map_toArray, List.map_cons, List.map_nil]); first | done | rfl | (simp only [List.length_drop, List.length_take]; rfl)) ?_; (with_reducible refine (impl_SetExists.calls _ _ l0 a2 true _ ?side1 ?side2 A49.out).mono ?_); (case side1 => repeat (first | exact (Kd.C_below HR0.out (by repeat (first | (with_reducible first | exact HB.out | apply below_alloc | apply pw_below_drewN | apply below_drew1) | exact HB.out))) | (with_reducible refine Kd.C_alloc ?_ _) | (with_reducible refine Kd.C_drewN ?_ _) | (with_reducible refine Kd.C_drew ?_))); (case side2 => exact HC0.out); rintro e w57 ⟨rfl, hb⟩; refine ⟨_, rfl, ?_⟩; have n0_ := Aside0.mk (Kd.R_below (by (with_reducible repeat (first | apply Kd.R_alloc | apply Kd.R_drewN | apply Kd.R_drew)); exact HO_7.out) hb); have n1_ := Aside0.mk (below_step (by repeat (first | (with_reducible first | exact HB.out | apply below_alloc | apply pw_below_drewN | apply below_drew1) | exact HB.out)) hb); clear HO_7; clear HB; have HO_7 := n0_; have HB := n1_; clear n0_ n1_; (try clear hb); (try clear hb2); (try clear hk); (try clear hi)))
                        go_ret
                        exact ⟨by first | rfl | (simp [errW_none, errW_some] <;> rfl) | (simp [*, errW_none, errW_some] <;> rfl) | (simp [errW_none, errW_some]; generalize ByteArray.toList _ = l_; cases l_ <;> rfl), by repeat (first | (with_reducible first | exact HB.out | apply below_alloc | apply pw_below_drewN | apply below_drew1) | exact HB.out)⟩
                    · replace c50 := Bool.eq_false_iff.mpr c50
                      subst c50
                      have H1 : ((impl_SetExists.f l1 a2).bind fun t147 => (if (t144 == t147) = true then ((laws_awakeSet.f).bind fun t148 => (some t148)) else (some false))) = some r := by rw [if_neg (show ¬ (false = true) by decide)] at H; exact H
                      clear H
                      have H := H1
                      clear H1
                      replace H := Option.bind_eq_some_iff.mp H
                      obtain ⟨t147, A580, H⟩ := H
                      replace H : (if (t144 == t147) = true then ((laws_awakeSet.f).bind fun t148 => (some t148)) else (some false)) = some r := H
                      have A58 := Aside0.mk A580
                      clear A580
                      by_cases c59 : (t144 == t147) = true
                      · rw [if_pos c59] at H
                        have c59b0 : (t144 == t147) = true := c59
                        (try (have c59b1 : decide (t144 = t147) = true := by simpa using c59))
                        (try (have c59b2 : (t144 == t147) = true := by simpa using c59))
                        clear c59
                        replace H := Option.bind_eq_some_iff.mp H
                        obtain ⟨t148, A600, H⟩ := H
                        replace H : (some t148) = some r := H
                        have A60 := Aside0.mk A600
                        clear A600
                        obtain rfl := Option.some.inj H
                        obtain ⟨Ao61, co61, eo61⟩ := Kd.R_slice HO_7.out
                        subst eo61
                        go_wp2_with (first | ((with_reducible refine gate_callee (f := 27) rfl ?_); refine goesL_ (some 59) rfl rfl Tryd.func27 (by kernel_rfl) rfl #[.slice Ao61 t123.length co61, .int .u64 a2] rfl (by (try simp only [List.map_toArray, List.map_cons, List.map_nil]); first | done | rfl | (simp only [List.length_drop, List.length_take]; rfl)) ?_; (with_reducible refine (spec_In.calls kj16 _ _ t123 a2 t144 _ ?side1 ?side2 A48.out).mono ?_); (case side1 => repeat (first | exact (Kd.R_reads' HO_7.out).2.2 | (with_reducible refine Kd.C_alloc ?_ _) | (with_reducible refine Kd.C_drewN ?_ _) | (with_reducible refine Kd.C_drew ?_))); (case side2 => exact (Kd.R_reads' HO_7.out).2.1); rintro e w' ⟨rfl, ⟨nd, rfl⟩⟩; refine ⟨_, rfl, ?_⟩) | ((with_reducible refine gate_callee (f := 28) rfl ?_); refine goesL_ (some 62) rfl rfl Tryd.func28 (by kernel_rfl) rfl #[.slice A0 l0.length c0, .int .u64 a2] rfl (by (try simp only [List.map_toArray, List.map_cons, List.map_nil]); first | done | rfl | (simp only [List.length_drop, List.length_take]; rfl)) ?_; (with_reducible refine (impl_SetExists.calls _ _ l0 a2 false _ ?side1 ?side2 A49.out).mono ?_); (case side1 => repeat (first | exact (Kd.C_below HR0.out (by repeat (first | (with_reducible first | exact HB.out | apply below_alloc | apply pw_below_drewN | apply below_drew1) | exact HB.out))) | (with_reducible refine Kd.C_alloc ?_ _) | (with_reducible refine Kd.C_drewN ?_ _) | (with_reducible refine Kd.C_drew ?_))); (case side2 => exact HC0.out); rintro e w62 ⟨rfl, hb⟩; refine ⟨_, rfl, ?_⟩; have n0_ := Aside0.mk (Kd.R_below (by (with_reducible repeat (first | apply Kd.R_alloc | apply Kd.R_drewN | apply Kd.R_drew)); exact HO_7.out) hb); have n1_ := Aside0.mk (below_step (by repeat (first | (with_reducible first | exact HB.out | apply below_alloc | apply pw_below_drewN | apply below_drew1) | exact HB.out)) hb); clear HO_7; clear HB; have HO_7 := n0_; have HB := n1_; clear n0_ n1_; (try clear hb); (try clear hb2); (try clear hk); (try clear hi)) | (go_at_call 28; (with_reducible refine (impl_SetExists.calls _ _ l1 a2 t147 _ ?side1 ?side2 A58.out).mono ?_); (case side1 => repeat (first | exact (Kd.C_below HR1.out HB.out) | (with_reducible refine Kd.C_alloc ?_ _) | (with_reducible refine Kd.C_drewN ?_ _) | (with_reducible refine Kd.C_drew ?_))); (case side2 => exact HC1.out); rintro e w63 ⟨rfl, hb⟩; have n0_ := Aside0.mk (Kd.R_below (by (with_reducible repeat (first | apply Kd.R_alloc | apply Kd.R_drewN | apply Kd.R_drew)); exact HO_7.out) hb); have n1_ := Aside0.mk (below_step (by repeat (first | (with_reducible first | exact HB.out | apply below_alloc | apply pw_below_drewN | apply below_drew1) | exact HB.out)) hb); clear HO_7; clear HB; have HO_7 := n0_; have HB := n1_; clear n0_ n1_; (try clear hb); (try clear hb2); (try clear hk); (try clear hi)) | (go_at_call 12; (with_reducible refine (laws_awakeSet.calls  t148 _ A60.out (HE_.out.below (by repeat (first | (with_reducible first | exact HB.out | apply below_alloc | apply pw_below_drewN | apply below_drew1) | exact HB.out)))).mono ?_); rintro e w64 ⟨rfl, hb⟩; have n0_ := Aside0.mk (Kd.R_below (by (with_reducible repeat (first | apply Kd.R_alloc | apply Kd.R_drewN | apply Kd.R_drew)); exact HO_7.out) hb); have n1_ := Aside0.mk (below_step (by repeat (first | (with_reducible first | exact HB.out | apply below_alloc | apply pw_below_drewN | apply below_drew1) | exact HB.out)) hb); clear HO_7; clear HB; have HO_7 := n0_; have HB := n1_; clear n0_ n1_; (try clear hb); (try clear hb2); (try clear hk); (try clear hi)))
                        go_ret
                        exact ⟨by first | rfl | (simp [errW_none, errW_some] <;> rfl) | (simp [*, errW_none, errW_some] <;> rfl) | (simp [errW_none, errW_some]; generalize ByteArray.toList _ = l_; cases l_ <;> rfl), by repeat (first | (with_reducible first | exact HB.out | apply below_alloc | apply pw_below_drewN | apply below_drew1) | exact HB.out)⟩
                      · rw [if_neg c59] at H
                        have c59b0 : (t144 == t147) = false := by simpa using c59
                        (try (have c59b1 : decide (t144 = t147) = false := by simpa using c59))
                        (try (have c59b2 : (t144 == t147) = false := by simpa using c59))
                        (try (have c59b3 : ¬ (t144 = t147) := by simpa using c59))
                        clear c59
                        obtain rfl := Option.some.inj H
                        obtain ⟨Ao65, co65, eo65⟩ := Kd.R_slice HO_7.out
                        subst eo65
                        go_wp2_with (first | ((with_reducible refine gate_callee (f := 27) rfl ?_); refine goesL_ (some 59) rfl rfl Tryd.func27 (by kernel_rfl) rfl #[.slice Ao65 t123.length co65, .int .u64 a2] rfl (by (try simp only [List.map_toArray, List.map_cons, List.map_nil]); first | done | rfl | (simp only [List.length_drop, List.length_take]; rfl)) ?_; (with_reducible refine (spec_In.calls kj16 _ _ t123 a2 t144 _ ?side1 ?side2 A48.out).mono ?_); (case side1 => repeat (first | exact (Kd.R_reads' HO_7.out).2.2 | (with_reducible refine Kd.C_alloc ?_ _) | (with_reducible refine Kd.C_drewN ?_ _) | (with_reducible refine Kd.C_drew ?_))); (case side2 => exact (Kd.R_reads' HO_7.out).2.1); rintro e w' ⟨rfl, ⟨nd, rfl⟩⟩; refine ⟨_, rfl, ?_⟩) | ((with_reducible refine gate_callee (f := 28) rfl ?_); refine goesL_ (some 62) rfl rfl Tryd.func28 (by kernel_rfl) rfl #[.slice A0 l0.length c0, .int .u64 a2] rfl (by (try simp only [List.map_toArray, List.map_cons, List.map_nil]); first | done | rfl | (simp only [List.length_drop, List.length_take]; rfl)) ?_; (with_reducible refine (impl_SetExists.calls _ _ l0 a2 false _ ?side1 ?side2 A49.out).mono ?_); (case side1 => repeat (first | exact (Kd.C_below HR0.out (by repeat (first | (with_reducible first | exact HB.out | apply below_alloc | apply pw_below_drewN | apply below_drew1) | exact HB.out))) | (with_reducible refine Kd.C_alloc ?_ _) | (with_reducible refine Kd.C_drewN ?_ _) | (with_reducible refine Kd.C_drew ?_))); (case side2 => exact HC0.out); rintro e w66 ⟨rfl, hb⟩; refine ⟨_, rfl, ?_⟩; have n0_ := Aside0.mk (Kd.R_below (by (with_reducible repeat (first | apply Kd.R_alloc | apply Kd.R_drewN | apply Kd.R_drew)); exact HO_7.out) hb); have n1_ := Aside0.mk (below_step (by repeat (first | (with_reducible first | exact HB.out | apply below_alloc | apply pw_below_drewN | apply below_drew1) | exact HB.out)) hb); clear HO_7; clear HB; have HO_7 := n0_; have HB := n1_; clear n0_ n1_; (try clear hb); (try clear hb2); (try clear hk); (try clear hi)) | (go_at_call 28; (with_reducible refine (impl_SetExists.calls _ _ l1 a2 t147 _ ?side1 ?side2 A58.out).mono ?_); (case side1 => repeat (first | exact (Kd.C_below HR1.out HB.out) | (with_reducible refine Kd.C_alloc ?_ _) | (with_reducible refine Kd.C_drewN ?_ _) | (with_reducible refine Kd.C_drew ?_))); (case side2 => exact HC1.out); rintro e w67 ⟨rfl, hb⟩; have n0_ := Aside0.mk (Kd.R_below (by (with_reducible repeat (first | apply Kd.R_alloc | apply Kd.R_drewN | apply Kd.R_drew)); exact HO_7.out) hb); have n1_ := Aside0.mk (below_step (by repeat (first | (with_reducible first | exact HB.out | apply below_alloc | apply pw_below_drewN | apply below_drew1) | exact HB.out)) hb); clear HO_7; clear HB; have HO_7 := n0_; have HB := n1_; clear n0_ n1_; (try clear hb); (try clear hb2); (try clear hk); (try clear hi)))
                        go_ret
                        exact ⟨by first | rfl | (simp [errW_none, errW_some] <;> rfl) | (simp [*, errW_none, errW_some] <;> rfl) | (simp [errW_none, errW_some]; generalize ByteArray.toList _ = l_; cases l_ <;> rfl), by repeat (first | (with_reducible first | exact HB.out | apply below_alloc | apply pw_below_drewN | apply below_drew1) | exact HB.out)⟩

end Go.Proofs.YtjhdnapgdajllaaDoor.PFnSetLattice
