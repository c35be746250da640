-- Written by hprint.py (this session's program, over the kit's printing program, with this session's own contracts in it). Not trusted: Lean checks it.
import Derived.Test.YtjhdnapgdajllaaDoorPFnSetShapex0
import Derived.Test.YtjhdnapgdajllaaDoorPFnSetShapex1
namespace Go.Proofs.YtjhdnapgdajllaaDoor.PFnSetShape
open Go.RowKit Go.Proofs.YtjhdnapgdajllaaDoorW.PrintWords Go.Proofs.YtjhdnapgdajllaaDoorW.PrintLast Go.Proofs.YtjhdnapgdajllaaDoorW.PrintMore
attribute [local go_sem] max2_int min2_int max_two min_two max_three min_three max_four min_four   -- for this text's walks alone
set_option linter.unusedVariables false
set_option linter.unusedSimpArgs false

/-! ### laws_FnSetShape: function 4 -/
mutual
def laws_FnSetShape.l0 : Nat → List (S34) → Int → Option (Bool)
  | 0, _, _ => none
  | k + 1, x0, x3 => if x3 < (x0.length : Int) then (if 0 ≤ x3 then (if ((rd_T34 x0 x3).f0) = 0 then (laws_FnSetShape.l0 k x0 (wrap64 (x3 + 1))) else ((laws_awakeSet.f).bind fun t116 => (some t116))) else (none)) else ((spec_Set.f x0).bind fun bt117 => ((impl_SetShape.f x0).bind fun bt123 => (if bt123.2.2 > (bt117.1.length : Int) then (laws_FnSetShape.j1 k bt123.1 bt123.2.1 bt123.2.2 true) else (if ((bt123.2.2 == 0) != ((bt117.1.length : Int) == 0)) = true then (laws_FnSetShape.j1 k bt123.1 bt123.2.1 bt123.2.2 true) else (if bt123.1 < 0 then (laws_FnSetShape.j1 k bt123.1 bt123.2.1 bt123.2.2 true) else (if bt123.2.1 < 0 then (laws_FnSetShape.j1 k bt123.1 bt123.2.1 bt123.2.2 true) else (if bt123.1 > 40 then (laws_FnSetShape.j1 k bt123.1 bt123.2.1 bt123.2.2 true) else (laws_FnSetShape.j1 k bt123.1 bt123.2.1 bt123.2.2 (decide (bt123.2.1 > 40))))))))))
def laws_FnSetShape.j1 : Nat → Int → Int → Int → Bool → Option (Bool)
  | 0, _, _, _, _ => none
  | k + 1, x6, x7, x8, x67 => if x67 = true then (some false) else (if (wrap64 (x6 - x7)) ≤ 1 then (if (wrap64 (x7 - x6)) ≤ 1 then (if x8 = 0 then ((laws_awakeSet.f).bind fun t126 => (some t126)) else ((laws_least.f k (wrap64 (1 + (mx x6 x7)))).bind fun t127 => (if t127 ≤ x8 then ((laws_awakeSet.f).bind fun t128 => (some t128)) else (some false)))) else (some false)) else (some false))
end
def laws_FnSetShape.f (k : Nat) (l0 : List (S34)) : Option (Bool) := if (l0.length : Int) > 2147483647 then (some true) else ((laws_acts.f k l0).bind fun t113 => (if t113 = true then (laws_FnSetShape.l0 k l0 0) else ((laws_awakeSet.f).bind fun t114 => (some t114))))
theorem laws_FnSetShape.mono_l : ∀ k, (∀ y0 y1, LeO (laws_FnSetShape.l0 k y0 y1) (laws_FnSetShape.l0 (k + 1) y0 y1)) ∧ (∀ y0 y1 y2 y3, LeO (laws_FnSetShape.j1 k y0 y1 y2 y3) (laws_FnSetShape.j1 (k + 1) y0 y1 y2 y3))
  | 0 => ⟨fun _ _ r h => by simp [laws_FnSetShape.l0] at h, fun _ _ _ _ r h => by simp [laws_FnSetShape.j1] at h⟩
  | k + 1 => by
    obtain ⟨ih0, ih1⟩ := laws_FnSetShape.mono_l k
    refine ⟨?_, ?_⟩
    · intro y0 y1
      unfold laws_FnSetShape.l0
      repeat' first
      | (with_reducible exact ih0 _ _)
      | (with_reducible exact ih1 _ _ _ _)
      | (with_reducible exact laws_acts.mono _ _)
      | (with_reducible exact laws_least.mono _ _)
      | (with_reducible exact LeO.refl _)
      | (with_reducible exact LeO.none _)
      | (with_reducible refine LeO.ite ?_ ?_)
      | (with_reducible refine LeO.bind ?_ (fun _ => ?_))
      | exact ih0 _ _
      | exact ih1 _ _ _ _
      | exact laws_acts.mono _ _
      | exact laws_least.mono _ _
      | exact LeO.none _
      | refine LeO.ite ?_ ?_
      | refine LeO.bind ?_ (fun _ => ?_)
    · intro y0 y1 y2 y3
      unfold laws_FnSetShape.j1
      repeat' first
      | (with_reducible exact ih0 _ _)
      | (with_reducible exact ih1 _ _ _ _)
      | (with_reducible exact laws_acts.mono _ _)
      | (with_reducible exact laws_least.mono _ _)
      | (with_reducible exact LeO.refl _)
      | (with_reducible exact LeO.none _)
      | (with_reducible refine LeO.ite ?_ ?_)
      | (with_reducible refine LeO.bind ?_ (fun _ => ?_))
      | exact ih0 _ _
      | exact ih1 _ _ _ _
      | exact laws_acts.mono _ _
      | exact laws_least.mono _ _
      | exact LeO.none _
      | refine LeO.ite ?_ ?_
      | refine LeO.bind ?_ (fun _ => ?_)
theorem laws_FnSetShape.mono : ∀ a0 k, LeO (laws_FnSetShape.f k a0) (laws_FnSetShape.f (k + 1) a0) := by
  intro a0 k
  obtain ⟨ih0, ih1⟩ := laws_FnSetShape.mono_l k
  unfold laws_FnSetShape.f
  repeat' first
      | (with_reducible exact ih0 _ _)
      | (with_reducible exact ih1 _ _ _ _)
      | (with_reducible exact laws_acts.mono _ _)
      | (with_reducible exact laws_least.mono _ _)
      | (with_reducible exact LeO.refl _)
      | (with_reducible exact LeO.none _)
      | (with_reducible refine LeO.ite ?_ ?_)
      | (with_reducible refine LeO.bind ?_ (fun _ => ?_))
      | exact ih0 _ _
      | exact ih1 _ _ _ _
      | exact laws_acts.mono _ _
      | exact laws_least.mono _ _
      | exact LeO.none _
      | refine LeO.ite ?_ ?_
      | refine LeO.bind ?_ (fun _ => ?_)
set_option maxHeartbeats 8000000 in
set_option maxRecDepth 100000 in
theorem laws_FnSetShape.calls (k : Nat) (A0 : Option Addr) (c0 : Nat) (l0 : List (S34)) (r : Bool) (w : World) (hr0 : Kd.C k34 w A0 l0.length l0) (hc0 : l0.length ≤ c0) (h : laws_FnSetShape.f k l0 = some r) (hE_ : Go.Proofs.YtjhdnapgdajllaaDoor.SetSpecW.TabLaid w) :
    Calls Tryd.prog 4 #[.slice A0 l0.length c0] w fun e w' => e = .returned (.bool r) ∧ Below w.heap.size w w' := by
  have HE_ := Aside0.mk hE_
  clear hE_
  have HR0 := Aside0.mk hr0
  have HC0 := Aside0.mk hc0
  clear hr0 hc0
  have HB := Aside0.mk (Below.refl w.heap.size w)
  have H : (if (l0.length : Int) > 2147483647 then (some true) else ((laws_acts.f k l0).bind fun t113 => (if t113 = true then (laws_FnSetShape.l0 k l0 0) else ((laws_awakeSet.f).bind fun t114 => (some t114))))) = some r := h
  clear h
  by_cases c2 : (l0.length : Int) > 2147483647
  · rw [if_pos c2] at H
    have c2b0 : decide (2147483647 < (l0.length : Int)) = true := decide_eq_true c2
    have c2b1 : decide (2147483647 < l0.length) = true := decide_eq_true (by omega)
    clear c2
    obtain rfl := Option.some.inj H
    go_enter Tryd.func4, Tryd.ntmps4
    go_wp2
    go_ret
    exact ⟨by first | rfl | (simp [errW_none, errW_some] <;> rfl) | (simp [*, errW_none, errW_some] <;> rfl) | (simp [errW_none, errW_some]; generalize ByteArray.toList _ = l_; cases l_ <;> rfl), by repeat (first | (with_reducible first | exact HB.out | apply below_alloc | apply pw_below_drewN | apply below_drew1) | exact HB.out)⟩
  · rw [if_neg c2] at H
    have c2b0 : decide (2147483647 < (l0.length : Int)) = false := decide_eq_false c2
    have c2b1 : decide (2147483647 < l0.length) = false := decide_eq_false (by omega)
    clear c2
    replace H := Option.bind_eq_some_iff.mp H
    obtain ⟨t113, A30, H⟩ := H
    replace H : (if t113 = true then (laws_FnSetShape.l0 k l0 0) else ((laws_awakeSet.f).bind fun t114 => (some t114))) = some r := H
    have A3 := Aside0.mk A30
    clear A30
    by_cases c4 : t113 = true
    · subst c4
      have H1 : (laws_FnSetShape.l0 k l0 0) = some r := by rw [if_pos rfl] at H; exact H
      clear H
      have H := H1
      clear H1
      have H' := Aside0.mk H
      clear H
      go_enter Tryd.func4, Tryd.ntmps4
      go_wp2_with (first | ((with_reducible refine gate_callee (f := 11) rfl ?_); refine goesL_ (some 13) rfl rfl Tryd.func11 (by kernel_rfl) rfl #[.slice A0 l0.length c0] rfl (by (try simp only [List.map_toArray, List.map_cons, List.map_nil]); first | done | rfl | (simp only [List.length_drop, List.length_take]; rfl)) ?_; (with_reducible refine (laws_acts.calls k _ _ l0 true _ ?side1 ?side2 A3.out).mono ?_); (case side1 => repeat (first | exact HR0.out | (with_reducible refine Kd.C_alloc ?_ _) | (with_reducible refine Kd.C_drewN ?_ _) | (with_reducible refine Kd.C_drew ?_))); (case side2 => exact HC0.out); rintro e w' ⟨rfl, ⟨nd, rfl⟩⟩; refine ⟨_, rfl, ?_⟩))
      go_loopg [3] k (fun kq v3 w' => ∃ (x3_1 : Int), v3 = .int .i64 x3_1 ∧ Aside0 (laws_FnSetShape.l0 kq l0 x3_1 = some r) ∧ Aside0 (kq ≤ k) ∧ Aside0 (Below w.heap.size w w'))
      case atStart => exact ⟨(0), (by first | rfl | (simp; done) | (simp [*]; done)), H', ⟨Nat.le_refl _⟩, ⟨by repeat (first | (with_reducible first | exact HB.out | apply below_alloc | apply pw_below_drewN | apply below_drew1) | exact HB.out)⟩⟩
      case round =>
        clear H'
        try clear c1
        try clear c2
        try clear c2b0
        try clear c2b1
        try clear p2
        try clear c4
        obtain ⟨x3_1, rfl, HA, HK1, HB⟩ := hrel
        cases gk with
        | zero => exact absurd HA.out (by simp [laws_FnSetShape.l0])
        | succ k1 =>
          have H := HA.out
          clear HA
          simp only [laws_FnSetShape.l0] at H
          by_cases c5 : x3_1 < (l0.length : Int)
          · rw [if_pos c5] at H
            have c5b0 : decide (x3_1 < (l0.length : Int)) = true := decide_eq_true c5
            clear c5
            by_cases c6 : 0 ≤ x3_1
            · rw [if_pos c6] at H
              have c6b0 : decide (0 ≤ x3_1) = true := decide_eq_true c6
              clear c6
              by_cases c7 : ((rd_T34 l0 x3_1).f0) = 0
              · rw [if_pos c7] at H
                have c7b0 : (((rd_T34 l0 x3_1).f0) == 0) = true := beq_iff_eq.mpr c7
                have c7b1 : (((rd_T34 l0 x3_1).f0) != 0) = false := bne_eq_false_iff_eq.mpr c7
                clear c7
                have H' := Aside0.mk H
                clear H
                have p115 : 0 ≤ (x3_1 : Int) := of_decide_eq_true (by first | (with_reducible assumption) | assumption)
                have q115 : x3_1 < (l0.length : Int) := of_decide_eq_true (by first | (with_reducible assumption) | assumption)
                obtain ⟨ad115, e115, hx115_0, hx115_1⟩ := at_T34 HR0.out x3_1 p115 q115
                cases e115
                replace hx115_0 := (HB.out.cell (World.block_lt_of_cell? w _ hx115_0)).trans hx115_0
                replace hx115_1 := (HB.out.cell (World.block_lt_of_cell? w _ hx115_1)).trans hx115_1
                replace p115 := eq_true p115
                replace q115 := eq_true q115
                go_wp2
                go_roundg k1
                case measure => have := HK1.out; omega
                case rel => exact ⟨(wrap64 (x3_1 + 1)), (by first | rfl | (simp; done) | (simp [*]; done)), H', ⟨by have := HK1.out; omega⟩, ⟨by repeat (first | (with_reducible first | exact HB.out | apply below_alloc | apply pw_below_drewN | apply below_drew1) | exact HB.out)⟩⟩
              · rw [if_neg c7] at H
                have c7b0 : (((rd_T34 l0 x3_1).f0) == 0) = false := beq_eq_false_iff_ne.mpr c7
                have c7b1 : (((rd_T34 l0 x3_1).f0) != 0) = true := bne_iff_ne.mpr c7
                replace H := Option.bind_eq_some_iff.mp H
                obtain ⟨t116, A80, H⟩ := H
                replace H : (some t116) = some r := H
                have A8 := Aside0.mk A80
                clear A80
                obtain rfl := Option.some.inj H
                have p115 : 0 ≤ (x3_1 : Int) := of_decide_eq_true (by first | (with_reducible assumption) | assumption)
                have q115 : x3_1 < (l0.length : Int) := of_decide_eq_true (by first | (with_reducible assumption) | assumption)
                obtain ⟨ad115, e115, hx115_0, hx115_1⟩ := at_T34 HR0.out x3_1 p115 q115
                cases e115
                replace hx115_0 := (HB.out.cell (World.block_lt_of_cell? w _ hx115_0)).trans hx115_0
                replace hx115_1 := (HB.out.cell (World.block_lt_of_cell? w _ hx115_1)).trans hx115_1
                replace p115 := eq_true p115
                replace q115 := eq_true q115
                go_wp2_with (first | ((with_reducible refine gate_callee (f := 12) rfl ?_); refine goesL_ (some 28) rfl rfl Tryd.func12 (by kernel_rfl) rfl #[] rfl (by (try simp only [List.map_toArray, List.map_cons, List.map_nil]); first | done | rfl | (simp only [List.length_drop, List.length_take]; rfl)) ?_; (with_reducible refine (laws_awakeSet.calls  t116 _ A8.out (HE_.out.below (by repeat (first | (with_reducible first | exact HB.out | apply below_alloc | apply pw_below_drewN | apply below_drew1) | exact HB.out)))).mono ?_); rintro e w9 ⟨rfl, hb⟩; refine ⟨_, rfl, ?_⟩; have n0_ := Aside0.mk (below_step (by repeat (first | (with_reducible first | exact HB.out | apply below_alloc | apply pw_below_drewN | apply below_drew1) | exact HB.out)) hb); clear HB; have HB := n0_; clear n0_; (try clear hb); (try clear hb2); (try clear hk); (try clear hi)))
                go_ret
                exact ⟨by first | rfl | (simp [errW_none, errW_some] <;> rfl) | (simp [*, errW_none, errW_some] <;> rfl) | (simp [errW_none, errW_some]; generalize ByteArray.toList _ = l_; cases l_ <;> rfl), by repeat (first | (with_reducible first | exact HB.out | apply below_alloc | apply pw_below_drewN | apply below_drew1) | exact HB.out)⟩
            · rw [if_neg c6] at H
              exact absurd H (by simp)
          · rw [if_neg c5] at H
            have c5b0 : decide (x3_1 < (l0.length : Int)) = false := decide_eq_false c5
            clear c5
            replace H := Option.bind_eq_some_iff.mp H
            obtain ⟨⟨t117, t118⟩, A100, H⟩ := H
            replace H : ((impl_SetShape.f l0).bind fun bt123 => (if bt123.2.2 > (t117.length : Int) then (laws_FnSetShape.j1 k1 bt123.1 bt123.2.1 bt123.2.2 true) else (if ((bt123.2.2 == 0) != ((t117.length : Int) == 0)) = true then (laws_FnSetShape.j1 k1 bt123.1 bt123.2.1 bt123.2.2 true) else (if bt123.1 < 0 then (laws_FnSetShape.j1 k1 bt123.1 bt123.2.1 bt123.2.2 true) else (if bt123.2.1 < 0 then (laws_FnSetShape.j1 k1 bt123.1 bt123.2.1 bt123.2.2 true) else (if bt123.1 > 40 then (laws_FnSetShape.j1 k1 bt123.1 bt123.2.1 bt123.2.2 true) else (laws_FnSetShape.j1 k1 bt123.1 bt123.2.1 bt123.2.2 (decide (bt123.2.1 > 40))))))))) = some r := H
            have A10 := Aside0.mk A100
            clear A100
            replace H := Option.bind_eq_some_iff.mp H
            obtain ⟨⟨t123, t124, t125⟩, A110, H⟩ := H
            replace H : (if t125 > (t117.length : Int) then (laws_FnSetShape.j1 k1 t123 t124 t125 true) else (if ((t125 == 0) != ((t117.length : Int) == 0)) = true then (laws_FnSetShape.j1 k1 t123 t124 t125 true) else (if t123 < 0 then (laws_FnSetShape.j1 k1 t123 t124 t125 true) else (if t124 < 0 then (laws_FnSetShape.j1 k1 t123 t124 t125 true) else (if t123 > 40 then (laws_FnSetShape.j1 k1 t123 t124 t125 true) else (laws_FnSetShape.j1 k1 t123 t124 t125 (decide (t124 > 40)))))))) = some r := H
            have A11 := Aside0.mk A110
            clear A110
            have HC12 := Aside0.mk H
            clear H
            go_upto_region 12 with (first | ((with_reducible refine gate_callee (f := 13) rfl ?_); refine goesL_ (some 31) rfl rfl Tryd.func13 (by kernel_rfl) rfl #[.slice A0 l0.length c0] rfl (by (try simp only [List.map_toArray, List.map_cons, List.map_nil]); first | done | rfl | (simp only [List.length_drop, List.length_take]; rfl)) ?_; (with_reducible refine (spec_Set.calls _ _ l0 t117 t118 _ ?side1 ?side2 A10.out).mono ?_); (case side1 => repeat (first | exact (Kd.C_below HR0.out HB.out) | (with_reducible refine Kd.C_alloc ?_ _) | (with_reducible refine Kd.C_drewN ?_ _) | (with_reducible refine Kd.C_drew ?_))); (case side2 => exact HC0.out); rintro e w13 ⟨v119, v121, rfl, ho0, ho1, hb⟩; refine ⟨_, rfl, ?_⟩; have n0_ := Aside0.mk (Kd.R_lower ho0 (below_size (by repeat (first | (with_reducible first | exact HB.out | apply below_alloc | apply pw_below_drewN | apply below_drew1) | exact HB.out)))); have n1_ := Aside0.mk (Kd.R_lower ho1 (below_size (by repeat (first | (with_reducible first | exact HB.out | apply below_alloc | apply pw_below_drewN | apply below_drew1) | exact HB.out)))); have n2_ := Aside0.mk (below_step (by repeat (first | (with_reducible first | exact HB.out | apply below_alloc | apply pw_below_drewN | apply below_drew1) | exact HB.out)) hb); clear HB; have HO120 := n0_; have HO122 := n1_; have HB := n2_; clear n0_ n1_ n2_; (try clear hb); (try clear hb2); (try clear hk); (try clear hi); (try clear ho0); (try clear ho1)) | ((with_reducible refine gate_callee (f := 16) rfl ?_); refine goesL_ (some 36) rfl rfl Tryd.func16 (by kernel_rfl) rfl #[.slice A0 l0.length c0] rfl (by (try simp only [List.map_toArray, List.map_cons, List.map_nil]); first | done | rfl | (simp only [List.length_drop, List.length_take]; rfl)) ?_; (with_reducible refine (impl_SetShape.calls _ _ l0 t123 t124 t125 _ ?side1 ?side2 A11.out).mono ?_); (case side1 => repeat (first | exact (Kd.C_below HR0.out HB.out) | (with_reducible refine Kd.C_alloc ?_ _) | (with_reducible refine Kd.C_drewN ?_ _) | (with_reducible refine Kd.C_drew ?_))); (case side2 => exact HC0.out); rintro e w14 ⟨rfl, hb⟩; refine ⟨_, rfl, ?_⟩; have n0_ := Aside0.mk (Kd.R_below (by (with_reducible repeat (first | apply Kd.R_alloc | apply Kd.R_drewN | apply Kd.R_drew)); exact HO120.out) hb); have n1_ := Aside0.mk (Kd.R_below (by (with_reducible repeat (first | apply Kd.R_alloc | apply Kd.R_drewN | apply Kd.R_drew)); exact HO122.out) hb); have n2_ := Aside0.mk (below_step (by repeat (first | (with_reducible first | exact HB.out | apply below_alloc | apply pw_below_drewN | apply below_drew1) | exact HB.out)) hb); clear HO120; clear HO122; clear HB; have HO120 := n0_; have HO122 := n1_; have HB := n2_; clear n0_ n1_ n2_; (try clear hb); (try clear hb2); (try clear hk); (try clear hi)))
            (try simp only [Act.put, List.setIfInBounds_toArray, List.set_cons_zero, List.set_cons_succ])
            go_cut [67] (fun v67 wc => ∃ (kq : Nat) (x67_11 : Bool), v67 = .bool x67_11 ∧ Aside0 (laws_FnSetShape.j1 kq t123 t124 t125 x67_11 = some r) ∧ Aside0 (kq ≤ k1) ∧ Aside0 (Below w.heap.size w wc))
            case first =>
              have H := HC12.out
              clear HC12
              by_cases c15 : t125 > (t117.length : Int)
              · rw [if_pos c15] at H
                have c15b0 : decide ((t117.length : Int) < t125) = true := decide_eq_true c15
                clear c15
                (first | rw [c15b0] | (simp only [i64_w, i32_w]; rw [c15b0]) | skip)
                have H' := Aside0.mk H
                clear H
                obtain ⟨Ao16, co16, eo16⟩ := Kd.R_slice HO120.out
                subst eo16
                go_wp2
                go_meet
                case rel => exact ⟨_, (true), (by first | rfl | (simp; done) | (simp [*]; done)), H', ⟨by have := HK1.out; first | omega | exact Nat.le_refl _⟩, ⟨by repeat (first | (with_reducible first | exact HB.out | apply below_alloc | apply pw_below_drewN | apply below_drew1) | exact HB.out)⟩⟩
              · rw [if_neg c15] at H
                have c15b0 : decide ((t117.length : Int) < t125) = false := decide_eq_false c15
                clear c15
                (first | rw [c15b0] | (simp only [i64_w, i32_w]; rw [c15b0]) | skip)
                by_cases c17 : ((t125 == 0) != ((t117.length : Int) == 0)) = true
                · rw [if_pos c17] at H
                  have c17b0 : ((t125 == 0) != ((t117.length : Int) == 0)) = true := c17
                  (try (have c17b1 : decide ((t125 == 0) = ((t117.length : Int) == 0)) = false := by simpa using c17))
                  (try (have c17b2 : ((t125 == 0) == ((t117.length : Int) == 0)) = false := by simpa using c17))
                  (try (have c17b3 : ¬ ((t125 == 0) = ((t117.length : Int) == 0)) := by simpa using c17))
                  clear c17
                  have H' := Aside0.mk H
                  clear H
                  obtain ⟨Ao18, co18, eo18⟩ := Kd.R_slice HO120.out
                  subst eo18
                  go_wp2
                  go_meet
                  case rel => exact ⟨_, (true), (by first | rfl | (simp; done) | (simp [*]; done)), H', ⟨by have := HK1.out; first | omega | exact Nat.le_refl _⟩, ⟨by repeat (first | (with_reducible first | exact HB.out | apply below_alloc | apply pw_below_drewN | apply below_drew1) | exact HB.out)⟩⟩
                · rw [if_neg c17] at H
                  have c17b0 : ((t125 == 0) != ((t117.length : Int) == 0)) = false := by simpa using c17
                  (try (have c17b1 : decide ((t125 == 0) = ((t117.length : Int) == 0)) = true := by simpa using c17))
                  (try (have c17b2 : ((t125 == 0) == ((t117.length : Int) == 0)) = true := by simpa using c17))
                  clear c17
                  by_cases c19 : t123 < 0
                  · rw [if_pos c19] at H
                    have c19b0 : decide (t123 < 0) = true := decide_eq_true c19
                    clear c19
                    have H' := Aside0.mk H
                    clear H
                    obtain ⟨Ao20, co20, eo20⟩ := Kd.R_slice HO120.out
                    subst eo20
                    go_wp2
                    go_meet
                    case rel => exact ⟨_, (true), (by first | rfl | (simp; done) | (simp [*]; done)), H', ⟨by have := HK1.out; first | omega | exact Nat.le_refl _⟩, ⟨by repeat (first | (with_reducible first | exact HB.out | apply below_alloc | apply pw_below_drewN | apply below_drew1) | exact HB.out)⟩⟩
                  · rw [if_neg c19] at H
                    have c19b0 : decide (t123 < 0) = false := decide_eq_false c19
                    clear c19
                    by_cases c21 : t124 < 0
                    · rw [if_pos c21] at H
                      have c21b0 : decide (t124 < 0) = true := decide_eq_true c21
                      clear c21
                      have H' := Aside0.mk H
                      clear H
                      obtain ⟨Ao22, co22, eo22⟩ := Kd.R_slice HO120.out
                      subst eo22
                      go_wp2
                      go_meet
                      case rel => exact ⟨_, (true), (by first | rfl | (simp; done) | (simp [*]; done)), H', ⟨by have := HK1.out; first | omega | exact Nat.le_refl _⟩, ⟨by repeat (first | (with_reducible first | exact HB.out | apply below_alloc | apply pw_below_drewN | apply below_drew1) | exact HB.out)⟩⟩
                    · rw [if_neg c21] at H
                      have c21b0 : decide (t124 < 0) = false := decide_eq_false c21
                      clear c21
                      by_cases c23 : t123 > 40
                      · rw [if_pos c23] at H
                        have c23b0 : decide (40 < t123) = true := decide_eq_true c23
                        clear c23
                        have H' := Aside0.mk H
                        clear H
                        obtain ⟨Ao24, co24, eo24⟩ := Kd.R_slice HO120.out
                        subst eo24
                        go_wp2
                        go_meet
                        case rel => exact ⟨_, (true), (by first | rfl | (simp; done) | (simp [*]; done)), H', ⟨by have := HK1.out; first | omega | exact Nat.le_refl _⟩, ⟨by repeat (first | (with_reducible first | exact HB.out | apply below_alloc | apply pw_below_drewN | apply below_drew1) | exact HB.out)⟩⟩
                      · rw [if_neg c23] at H
                        have c23b0 : decide (40 < t123) = false := decide_eq_false c23
                        clear c23
                        have H' := Aside0.mk H
                        clear H
                        obtain ⟨Ao25, co25, eo25⟩ := Kd.R_slice HO120.out
                        subst eo25
                        go_wp2
                        go_meet
                        case rel => exact ⟨_, (decide (t124 > 40)), (by first | rfl | (simp; done) | (simp [*]; done)), H', ⟨by have := HK1.out; first | omega | exact Nat.le_refl _⟩, ⟨by repeat (first | (with_reducible first | exact HB.out | apply below_alloc | apply pw_below_drewN | apply below_drew1) | exact HB.out)⟩⟩
            case rest =>
              clear HC12
              try clear c1
              try clear p1
              try clear q1
              try clear hx1
              try clear c2
              try clear c2b0
              try clear c2b1
              try clear p2
              try clear c4
              try clear c5
              try clear c5b0
              try clear c6
              try clear c6b0
              try clear p6
              try clear c7
              try clear c7b0
              try clear c7b1
              try clear c11
              try clear p11
              try clear q11
              try clear hx11
              try clear c12
              try clear c13
              try clear c15
              try clear c15b0
              try clear c16
              try clear c17
              try clear c17b0
              try clear c17b1
              try clear c17b2
              try clear c19
              try clear c19b0
              try clear c21
              try clear c21b0
              try clear c23
              try clear c23b0
              try clear hx115_0
              try clear hx115_1
              try clear p115
              try clear p2
              try clear q115
              obtain ⟨kq, x67_11, rfl, HA, HJ11, HB⟩ := hcut
              cases kq with
              | zero => exact absurd HA.out (by simp [laws_FnSetShape.j1])
              | succ kj11 =>
                have H := HA.out
                clear HA
                simp only [laws_FnSetShape.j1] at H
                by_cases c26 : x67_11 = true
                · subst c26
                  have H1 : (some false) = some r := by rw [if_pos rfl] at H; exact H
                  clear H
                  have H := H1
                  clear H1
                  obtain rfl := Option.some.inj H
                  go_wp2
                  go_ret
                  exact ⟨by first | rfl | (simp [errW_none, errW_some] <;> rfl) | (simp [*, errW_none, errW_some] <;> rfl) | (simp [errW_none, errW_some]; generalize ByteArray.toList _ = l_; cases l_ <;> rfl), by repeat (first | (with_reducible first | exact HB.out | apply below_alloc | apply pw_below_drewN | apply below_drew1) | exact HB.out)⟩
                · replace c26 := Bool.eq_false_iff.mpr c26
                  subst c26
                  have H1 : (if (wrap64 (t123 - t124)) ≤ 1 then (if (wrap64 (t124 - t123)) ≤ 1 then (if t125 = 0 then ((laws_awakeSet.f).bind fun t126 => (some t126)) else ((laws_least.f kj11 (wrap64 (1 + (mx t123 t124)))).bind fun t127 => (if t127 ≤ t125 then ((laws_awakeSet.f).bind fun t128 => (some t128)) else (some false)))) else (some false)) else (some false)) = some r := by rw [if_neg (show ¬ (false = true) by decide)] at H; exact H
                  clear H
                  have H := H1
                  clear H1
                  by_cases c27 : (wrap64 (t123 - t124)) ≤ 1
                  · rw [if_pos c27] at H
                    have c27b0 : decide ((wrap64 (t123 - t124)) ≤ 1) = true := decide_eq_true c27
                    clear c27
                    by_cases c28 : (wrap64 (t124 - t123)) ≤ 1
                    · rw [if_pos c28] at H
                      have c28b0 : decide ((wrap64 (t124 - t123)) ≤ 1) = true := decide_eq_true c28
                      clear c28
                      by_cases c29 : t125 = 0
                      · rw [if_pos c29] at H
                        have c29b0 : (t125 == 0) = true := beq_iff_eq.mpr c29
                        have c29b1 : (t125 != 0) = false := bne_eq_false_iff_eq.mpr c29
                        clear c29
                        replace H := Option.bind_eq_some_iff.mp H
                        obtain ⟨t126, A300, H⟩ := H
                        replace H : (some t126) = some r := H
                        have A30 := Aside0.mk A300
                        clear A300
                        obtain rfl := Option.some.inj H
                        go_wp2_with (first | (go_at_call 12; (with_reducible refine (laws_awakeSet.calls  t126 _ A30.out (HE_.out.below (by repeat (first | (with_reducible first | exact HB.out | apply below_alloc | apply pw_below_drewN | apply below_drew1) | exact HB.out)))).mono ?_); rintro e w31 ⟨rfl, hb⟩; have n0_ := Aside0.mk (below_step (by repeat (first | (with_reducible first | exact HB.out | apply below_alloc | apply pw_below_drewN | apply below_drew1) | exact HB.out)) hb); clear HB; have HB := n0_; clear n0_; (try clear hb); (try clear hb2); (try clear hk); (try clear hi)))
                        go_ret
                        exact ⟨by first | rfl | (simp [errW_none, errW_some] <;> rfl) | (simp [*, errW_none, errW_some] <;> rfl) | (simp [errW_none, errW_some]; generalize ByteArray.toList _ = l_; cases l_ <;> rfl), by repeat (first | (with_reducible first | exact HB.out | apply below_alloc | apply pw_below_drewN | apply below_drew1) | exact HB.out)⟩
                      · rw [if_neg c29] at H
                        have c29b0 : (t125 == 0) = false := beq_eq_false_iff_ne.mpr c29
                        have c29b1 : (t125 != 0) = true := bne_iff_ne.mpr c29
                        obtain ⟨ji32, hji32⟩ : ∃ j_ : Int, (mx t123 t124) = j_ := ⟨_, rfl⟩
                        replace H : ((laws_least.f kj11 (wrap64 (1 + (ji32)))).bind fun t127 => (if t127 ≤ t125 then ((laws_awakeSet.f).bind fun t128 => (some t128)) else (some false))) = some r := by first | (rw [hji32] at H; exact H) | (simp only [hji32] at H ⊢; exact H)
                        have hji32_ : (if t123 < t124 then t124 else t123) = ji32 := hji32
                        replace H := Option.bind_eq_some_iff.mp H
                        obtain ⟨t127, A330, H⟩ := H
                        replace H : (if t127 ≤ t125 then ((laws_awakeSet.f).bind fun t128 => (some t128)) else (some false)) = some r := H
                        have A33 := Aside0.mk A330
                        clear A330
                        by_cases c34 : t127 ≤ t125
                        · rw [if_pos c34] at H
                          have c34b0 : decide (t127 ≤ t125) = true := decide_eq_true c34
                          clear c34
                          replace H := Option.bind_eq_some_iff.mp H
                          obtain ⟨t128, A350, H⟩ := H
                          replace H : (some t128) = some r := H
                          have A35 := Aside0.mk A350
                          clear A350
                          obtain rfl := Option.some.inj H
                          go_wp2_with (first | (go_at_call 17; (with_reducible refine (laws_least.calls kj11 (wrap64 (1 + (ji32))) t127 _ A33.out).mono ?_); rintro e w' ⟨rfl, ⟨nd, rfl⟩⟩) | (go_at_call 12; (with_reducible refine (laws_awakeSet.calls  t128 _ A35.out (HE_.out.below (by repeat (first | (with_reducible first | exact HB.out | apply below_alloc | apply pw_below_drewN | apply below_drew1) | exact HB.out)))).mono ?_); rintro e w36 ⟨rfl, hb⟩; have n0_ := Aside0.mk (below_step (by repeat (first | (with_reducible first | exact HB.out | apply below_alloc | apply pw_below_drewN | apply below_drew1) | exact HB.out)) hb); clear HB; have HB := n0_; clear n0_; (try clear hb); (try clear hb2); (try clear hk); (try clear hi)))
                          go_ret
                          exact ⟨by first | rfl | (simp [errW_none, errW_some] <;> rfl) | (simp only [← hji32]; first | rfl | (simp [errW_none, errW_some] <;> rfl)) | (simp [*, errW_none, errW_some] <;> rfl) | (simp [errW_none, errW_some]; generalize ByteArray.toList _ = l_; cases l_ <;> rfl), by repeat (first | (with_reducible first | exact HB.out | apply below_alloc | apply pw_below_drewN | apply below_drew1) | exact HB.out)⟩
                        · rw [if_neg c34] at H
                          have c34b0 : decide (t127 ≤ t125) = false := decide_eq_false c34
                          clear c34
                          obtain rfl := Option.some.inj H
                          go_wp2_with (first | (go_at_call 17; (with_reducible refine (laws_least.calls kj11 (wrap64 (1 + (ji32))) t127 _ A33.out).mono ?_); rintro e w' ⟨rfl, ⟨nd, rfl⟩⟩))
                          go_ret
                          exact ⟨by first | rfl | (simp [errW_none, errW_some] <;> rfl) | (simp only [← hji32]; first | rfl | (simp [errW_none, errW_some] <;> rfl)) | (simp [*, errW_none, errW_some] <;> rfl) | (simp [errW_none, errW_some]; generalize ByteArray.toList _ = l_; cases l_ <;> rfl), by repeat (first | (with_reducible first | exact HB.out | apply below_alloc | apply pw_below_drewN | apply below_drew1) | exact HB.out)⟩
                    · rw [if_neg c28] at H
                      have c28b0 : decide ((wrap64 (t124 - t123)) ≤ 1) = false := decide_eq_false c28
                      clear c28
                      obtain rfl := Option.some.inj H
                      go_wp2
                      go_ret
                      exact ⟨by first | rfl | (simp [errW_none, errW_some] <;> rfl) | (simp [*, errW_none, errW_some] <;> rfl) | (simp [errW_none, errW_some]; generalize ByteArray.toList _ = l_; cases l_ <;> rfl), by repeat (first | (with_reducible first | exact HB.out | apply below_alloc | apply pw_below_drewN | apply below_drew1) | exact HB.out)⟩
                  · rw [if_neg c27] at H
                    have c27b0 : decide ((wrap64 (t123 - t124)) ≤ 1) = false := decide_eq_false c27
                    clear c27
                    obtain rfl := Option.some.inj H
                    go_wp2
                    go_ret
                    exact ⟨by first | rfl | (simp [errW_none, errW_some] <;> rfl) | (simp [*, errW_none, errW_some] <;> rfl) | (simp [errW_none, errW_some]; generalize ByteArray.toList _ = l_; cases l_ <;> rfl), by repeat (first | (with_reducible first | exact HB.out | apply below_alloc | apply pw_below_drewN | apply below_drew1) | exact HB.out)⟩
    · replace c4 := Bool.eq_false_iff.mpr c4
      subst c4
      have H1 : ((laws_awakeSet.f).bind fun t114 => (some t114)) = some r := by rw [if_neg (show ¬ (false = true) by decide)] at H; exact H
      clear H
      have H := H1
      clear H1
      replace H := Option.bind_eq_some_iff.mp H
      obtain ⟨t114, A370, H⟩ := H
      replace H : (some t114) = some r := H
      have A37 := Aside0.mk A370
      clear A370
      obtain rfl := Option.some.inj H
      go_enter Tryd.func4, Tryd.ntmps4
      go_wp2_with (first | ((with_reducible refine gate_callee (f := 11) rfl ?_); refine goesL_ (some 13) rfl rfl Tryd.func11 (by kernel_rfl) rfl #[.slice A0 l0.length c0] rfl (by (try simp only [List.map_toArray, List.map_cons, List.map_nil]); first | done | rfl | (simp only [List.length_drop, List.length_take]; rfl)) ?_; (with_reducible refine (laws_acts.calls k _ _ l0 false _ ?side1 ?side2 A3.out).mono ?_); (case side1 => repeat (first | exact HR0.out | (with_reducible refine Kd.C_alloc ?_ _) | (with_reducible refine Kd.C_drewN ?_ _) | (with_reducible refine Kd.C_drew ?_))); (case side2 => exact HC0.out); rintro e w' ⟨rfl, ⟨nd, rfl⟩⟩; refine ⟨_, rfl, ?_⟩) | ((with_reducible refine gate_callee (f := 12) rfl ?_); refine goesL_ (some 15) rfl rfl Tryd.func12 (by kernel_rfl) rfl #[] rfl (by (try simp only [List.map_toArray, List.map_cons, List.map_nil]); first | done | rfl | (simp only [List.length_drop, List.length_take]; rfl)) ?_; (with_reducible refine (laws_awakeSet.calls  t114 _ A37.out (HE_.out.below (by repeat (first | (with_reducible first | exact HB.out | apply below_alloc | apply pw_below_drewN | apply below_drew1) | exact HB.out)))).mono ?_); rintro e w38 ⟨rfl, hb⟩; refine ⟨_, rfl, ?_⟩; have n0_ := Aside0.mk (below_step (by repeat (first | (with_reducible first | exact HB.out | apply below_alloc | apply pw_below_drewN | apply below_drew1) | exact HB.out)) hb); clear HB; have HB := n0_; clear n0_; (try clear hb); (try clear hb2); (try clear hk); (try clear hi)))
      go_ret
      exact ⟨by first | rfl | (simp [errW_none, errW_some] <;> rfl) | (simp [*, errW_none, errW_some] <;> rfl) | (simp [errW_none, errW_some]; generalize ByteArray.toList _ = l_; cases l_ <;> rfl), by repeat (first | (with_reducible first | exact HB.out | apply below_alloc | apply pw_below_drewN | apply below_drew1) | exact HB.out)⟩

end Go.Proofs.YtjhdnapgdajllaaDoor.PFnSetShape
