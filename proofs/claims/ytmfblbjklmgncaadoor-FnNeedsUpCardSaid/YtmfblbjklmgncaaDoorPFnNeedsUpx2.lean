-- Written by hprint.py (this session's program, over the kit's printing program, with this session's own contracts in it). Not trusted: Lean checks it.
import Derived.Test.YtmfblbjklmgncaaDoorPFnNeedsUpx0
import Derived.Test.YtmfblbjklmgncaaDoorPFnNeedsUpx1
namespace Go.Proofs.YtmfblbjklmgncaaDoor.PFnNeedsUp
open Go.RowKit Go.Proofs.YtmfblbjklmgncaaDoorW.PrintWords Go.Proofs.YtmfblbjklmgncaaDoorW.PrintLast Go.Proofs.YtmfblbjklmgncaaDoorW.PrintMore
attribute [local go_sem] max2_int min2_int max_two min_two max_three min_three max_four min_four   -- for this text's walks alone
set_option linter.unusedVariables false
set_option linter.unusedSimpArgs false

/-! ### spec_Filtering: function 43 -/
def spec_Filtering.l0 : Nat → ByteArray → List ByteArray → Int → Option (Bool)
  | 0, _, _, _ => none
  | k + 1, x0, x3, x4 => if x4 < (x3.length : Int) then (if 0 ≤ x4 then (if (rdOf ByteArray.empty x3 x4).toList = ([] : List UInt8) then (spec_Filtering.l0 k x0 x3 (wrap64 (x4 + 1))) else (if (rdOf ByteArray.empty x3 x4).toList = ([43] : List UInt8) then (spec_Filtering.l0 k x0 x3 (wrap64 (x4 + 1))) else (if (rdOf ByteArray.empty x3 x4).toList = ([35] : List UInt8) then (if ((wrap64 (x4 + 1)) = (x3.length : Int)) then (spec_Filtering.l0 k x0 x3 (wrap64 (x4 + 1))) else ((spec_Topical.f k (rdOf ByteArray.empty x3 x4)).bind fun t122 => (if t122 = true then (spec_Filtering.l0 k x0 x3 (wrap64 (x4 + 1))) else (some false)))) else ((spec_Topical.f k (rdOf ByteArray.empty x3 x4)).bind fun t124 => (if t124 = true then (spec_Filtering.l0 k x0 x3 (wrap64 (x4 + 1))) else (some false)))))) else (none)) else (some (x0.toList != ([] : List UInt8)))
def spec_Filtering.f (k : Nat) (a0 : ByteArray) : Option (Bool) := (spec_levels.f k a0).bind fun t115 => (spec_Filtering.l0 k a0 t115 0)
theorem spec_Filtering.mono_l : ∀ k, (∀ y0 y1 y2, LeO (spec_Filtering.l0 k y0 y1 y2) (spec_Filtering.l0 (k + 1) y0 y1 y2))
  | 0 => fun _ _ _ r h => by simp [spec_Filtering.l0] at h
  | k + 1 => by
    have ih0 := spec_Filtering.mono_l k
    · intro y0 y1 y2
      unfold spec_Filtering.l0
      repeat' first
      | (with_reducible exact ih0 _ _ _)
      | (with_reducible exact spec_Topical.mono _ _)
      | (with_reducible exact spec_levels.mono _ _)
      | (with_reducible exact LeO.refl _)
      | (with_reducible exact LeO.none _)
      | (with_reducible refine LeO.ite ?_ ?_)
      | (with_reducible refine LeO.bind ?_ (fun _ => ?_))
      | exact ih0 _ _ _
      | exact spec_Topical.mono _ _
      | exact spec_levels.mono _ _
      | exact LeO.none _
      | refine LeO.ite ?_ ?_
      | refine LeO.bind ?_ (fun _ => ?_)
theorem spec_Filtering.mono : ∀ a0 k, LeO (spec_Filtering.f k a0) (spec_Filtering.f (k + 1) a0) := by
  intro a0 k
  have ih0 := spec_Filtering.mono_l k
  unfold spec_Filtering.f
  repeat' first
      | (with_reducible exact ih0 _ _ _)
      | (with_reducible exact spec_Topical.mono _ _)
      | (with_reducible exact spec_levels.mono _ _)
      | (with_reducible exact LeO.refl _)
      | (with_reducible exact LeO.none _)
      | (with_reducible refine LeO.ite ?_ ?_)
      | (with_reducible refine LeO.bind ?_ (fun _ => ?_))
      | exact ih0 _ _ _
      | exact spec_Topical.mono _ _
      | exact spec_levels.mono _ _
      | exact LeO.none _
      | refine LeO.ite ?_ ?_
      | refine LeO.bind ?_ (fun _ => ?_)
set_option maxHeartbeats 8000000 in
set_option maxRecDepth 100000 in
theorem spec_Filtering.calls (k : Nat) (a0 : ByteArray) (r : Bool) (w : World) (h : spec_Filtering.f k a0 = some r) :
    Calls Tryd.prog 43 #[.string a0] w fun e w' => e = .returned (.bool r) ∧ Below w.heap.size w w' := by
  have HB := Aside0.mk (Below.refl w.heap.size w)
  have H : ((spec_levels.f k a0).bind fun t115 => (spec_Filtering.l0 k a0 t115 0)) = some r := h
  clear h
  replace H := Option.bind_eq_some_iff.mp H
  obtain ⟨t115, A20, H⟩ := H
  replace H : (spec_Filtering.l0 k a0 t115 0) = some r := H
  have A2 := Aside0.mk A20
  clear A20
  have H' := Aside0.mk H
  clear H
  go_enter Tryd.func43, Tryd.ntmps43
  go_wp2_with (first | ((with_reducible refine gate_callee (f := 45) rfl ?_); refine goesL_ (some 6) rfl rfl Tryd.func45 (by kernel_rfl) rfl #[.string a0] rfl (by (try simp only [List.map_toArray, List.map_cons, List.map_nil]); first | done | rfl | (simp only [List.length_drop, List.length_take]; rfl)) ?_; (with_reducible refine (spec_levels.calls k a0 t115 _ A2.out).mono ?_); rintro e w3 ⟨v116, rfl, ho0, hb⟩; refine ⟨_, rfl, ?_⟩; have n0_ := Aside0.mk (Kd.R_lower ho0 (below_size (by repeat (first | (with_reducible first | exact HB.out | apply below_alloc | apply pw_below_drewN | apply below_drew1) | exact HB.out)))); have n1_ := Aside0.mk (below_step (by repeat (first | (with_reducible first | exact HB.out | apply below_alloc | apply pw_below_drewN | apply below_drew1) | exact HB.out)) hb); clear HB; have HO117 := n0_; have HB := n1_; clear n0_ n1_; (try clear hb); (try clear hb2); (try clear hk); (try clear hi); (try clear ho0)))
  go_loopg [4] k (fun kq v4 w' => ∃ (x4_1 : Int), v4 = .int .i64 x4_1 ∧ Aside0 (spec_Filtering.l0 kq a0 t115 x4_1 = some r) ∧ Aside0 (kq ≤ k) ∧ Aside0 (Kd.R Kd.string 9 w' w.heap.size (fun _ => True) v116 t115) ∧ Aside0 (Below w.heap.size w w'))
  case atStart => exact ⟨(0), (by first | rfl | (simp; done) | (simp [*]; done)), H', ⟨Nat.le_refl _⟩, ⟨by (with_reducible repeat (first | apply Kd.R_alloc | apply Kd.R_drewN | apply Kd.R_drew)); exact HO117.out⟩, ⟨by repeat (first | (with_reducible first | exact HB.out | apply below_alloc | apply pw_below_drewN | apply below_drew1) | exact HB.out)⟩⟩
  case round =>
    clear H'
    try clear p2
    obtain ⟨x4_1, rfl, HA, HK1, HO_3, HB⟩ := hrel
    cases gk with
    | zero => exact absurd HA.out (by simp [spec_Filtering.l0])
    | succ k1 =>
      have H := HA.out
      clear HA
      simp only [spec_Filtering.l0] at H
      by_cases c4 : x4_1 < (t115.length : Int)
      · rw [if_pos c4] at H
        have c4b0 : decide (x4_1 < (t115.length : Int)) = true := decide_eq_true c4
        clear c4
        by_cases c5 : 0 ≤ x4_1
        · rw [if_pos c5] at H
          have c5b0 : decide (0 ≤ x4_1) = true := decide_eq_true c5
          clear c5
          by_cases c6 : (rdOf ByteArray.empty t115 x4_1).toList = ([] : List UInt8)
          · rw [if_pos c6] at H
            have c6b0 : ((rdOf ByteArray.empty t115 x4_1).toList == ([] : List UInt8)) = true := beq_iff_eq.mpr c6
            have c6b1 : ((rdOf ByteArray.empty t115 x4_1).toList != ([] : List UInt8)) = false := bne_eq_false_iff_eq.mpr c6
            clear c6
            have H' := Aside0.mk H
            clear H
            obtain ⟨Ao7, co7, eo7⟩ := Kd.R_slice HO_3.out
            subst eo7
            have p118 : 0 ≤ (x4_1 : Int) := of_decide_eq_true (by first | (with_reducible assumption) | assumption)
            have q118 : x4_1 < (t115.length : Int) := of_decide_eq_true (by first | (with_reducible assumption) | assumption)
            obtain ⟨ad118, e118, hx118_0⟩ := Kd.at_string (Kd.R_reads' HO_3.out).2.2 x4_1 p118 q118
            cases e118
            replace p118 := eq_true p118
            replace q118 := eq_true q118
            go_wp2
            go_roundg k1
            case measure => have := HK1.out; omega
            case rel => exact ⟨(wrap64 (x4_1 + 1)), (by first | rfl | (simp; done) | (simp [*]; done)), H', ⟨by have := HK1.out; omega⟩, ⟨by (with_reducible repeat (first | apply Kd.R_alloc | apply Kd.R_drewN | apply Kd.R_drew)); exact HO_3.out⟩, ⟨by repeat (first | (with_reducible first | exact HB.out | apply below_alloc | apply pw_below_drewN | apply below_drew1) | exact HB.out)⟩⟩
          · rw [if_neg c6] at H
            have c6b0 : ((rdOf ByteArray.empty t115 x4_1).toList == ([] : List UInt8)) = false := beq_eq_false_iff_ne.mpr c6
            have c6b1 : ((rdOf ByteArray.empty t115 x4_1).toList != ([] : List UInt8)) = true := bne_iff_ne.mpr c6
            by_cases c8 : (rdOf ByteArray.empty t115 x4_1).toList = ([43] : List UInt8)
            · rw [if_pos c8] at H
              have c8b0 : ((rdOf ByteArray.empty t115 x4_1).toList == ([43] : List UInt8)) = true := beq_iff_eq.mpr c8
              have c8b1 : ((rdOf ByteArray.empty t115 x4_1).toList != ([43] : List UInt8)) = false := bne_eq_false_iff_eq.mpr c8
              clear c8
              have H' := Aside0.mk H
              clear H
              obtain ⟨Ao9, co9, eo9⟩ := Kd.R_slice HO_3.out
              subst eo9
              have p118 : 0 ≤ (x4_1 : Int) := of_decide_eq_true (by first | (with_reducible assumption) | assumption)
              have q118 : x4_1 < (t115.length : Int) := of_decide_eq_true (by first | (with_reducible assumption) | assumption)
              obtain ⟨ad118, e118, hx118_0⟩ := Kd.at_string (Kd.R_reads' HO_3.out).2.2 x4_1 p118 q118
              cases e118
              replace p118 := eq_true p118
              replace q118 := eq_true q118
              have p119 : 0 ≤ (x4_1 : Int) := of_decide_eq_true (by first | (with_reducible assumption) | assumption)
              have q119 : x4_1 < (t115.length : Int) := of_decide_eq_true (by first | (with_reducible assumption) | assumption)
              obtain ⟨ad119, e119, hx119_0⟩ := Kd.at_string (Kd.R_reads' HO_3.out).2.2 x4_1 p119 q119
              obtain rfl : ad118 = ad119 := (by injection e119)
              replace p119 := eq_true p119
              replace q119 := eq_true q119
              go_wp2
              go_roundg k1
              case measure => have := HK1.out; omega
              case rel => exact ⟨(wrap64 (x4_1 + 1)), (by first | rfl | (simp; done) | (simp [*]; done)), H', ⟨by have := HK1.out; omega⟩, ⟨by (with_reducible repeat (first | apply Kd.R_alloc | apply Kd.R_drewN | apply Kd.R_drew)); exact HO_3.out⟩, ⟨by repeat (first | (with_reducible first | exact HB.out | apply below_alloc | apply pw_below_drewN | apply below_drew1) | exact HB.out)⟩⟩
            · rw [if_neg c8] at H
              have c8b0 : ((rdOf ByteArray.empty t115 x4_1).toList == ([43] : List UInt8)) = false := beq_eq_false_iff_ne.mpr c8
              have c8b1 : ((rdOf ByteArray.empty t115 x4_1).toList != ([43] : List UInt8)) = true := bne_iff_ne.mpr c8
              by_cases c10 : (rdOf ByteArray.empty t115 x4_1).toList = ([35] : List UInt8)
              · rw [if_pos c10] at H
                have c10b0 : ((rdOf ByteArray.empty t115 x4_1).toList == ([35] : List UInt8)) = true := beq_iff_eq.mpr c10
                have c10b1 : ((rdOf ByteArray.empty t115 x4_1).toList != ([35] : List UInt8)) = false := bne_eq_false_iff_eq.mpr c10
                clear c10
                by_cases c11 : ((wrap64 (x4_1 + 1)) = (t115.length : Int))
                · rw [if_pos c11] at H
                  have c11b0 : ((wrap64 (x4_1 + 1)) == (t115.length : Int)) = true := beq_iff_eq.mpr c11
                  have c11b1 : ((wrap64 (x4_1 + 1)) != (t115.length : Int)) = false := bne_eq_false_iff_eq.mpr c11
                  clear c11
                  have H' := Aside0.mk H
                  clear H
                  obtain ⟨Ao12, co12, eo12⟩ := Kd.R_slice HO_3.out
                  subst eo12
                  have p118 : 0 ≤ (x4_1 : Int) := of_decide_eq_true (by first | (with_reducible assumption) | assumption)
                  have q118 : x4_1 < (t115.length : Int) := of_decide_eq_true (by first | (with_reducible assumption) | assumption)
                  obtain ⟨ad118, e118, hx118_0⟩ := Kd.at_string (Kd.R_reads' HO_3.out).2.2 x4_1 p118 q118
                  cases e118
                  replace p118 := eq_true p118
                  replace q118 := eq_true q118
                  have p119 : 0 ≤ (x4_1 : Int) := of_decide_eq_true (by first | (with_reducible assumption) | assumption)
                  have q119 : x4_1 < (t115.length : Int) := of_decide_eq_true (by first | (with_reducible assumption) | assumption)
                  obtain ⟨ad119, e119, hx119_0⟩ := Kd.at_string (Kd.R_reads' HO_3.out).2.2 x4_1 p119 q119
                  obtain rfl : ad118 = ad119 := (by injection e119)
                  replace p119 := eq_true p119
                  replace q119 := eq_true q119
                  have p120 : 0 ≤ (x4_1 : Int) := of_decide_eq_true (by first | (with_reducible assumption) | assumption)
                  have q120 : x4_1 < (t115.length : Int) := of_decide_eq_true (by first | (with_reducible assumption) | assumption)
                  obtain ⟨ad120, e120, hx120_0⟩ := Kd.at_string (Kd.R_reads' HO_3.out).2.2 x4_1 p120 q120
                  obtain rfl : ad118 = ad120 := (by injection e120)
                  replace p120 := eq_true p120
                  replace q120 := eq_true q120
                  go_wp2
                  go_roundg k1
                  case measure => have := HK1.out; omega
                  case rel => exact ⟨(wrap64 (x4_1 + 1)), (by first | rfl | (simp; done) | (simp [*]; done)), H', ⟨by have := HK1.out; omega⟩, ⟨by (with_reducible repeat (first | apply Kd.R_alloc | apply Kd.R_drewN | apply Kd.R_drew)); exact HO_3.out⟩, ⟨by repeat (first | (with_reducible first | exact HB.out | apply below_alloc | apply pw_below_drewN | apply below_drew1) | exact HB.out)⟩⟩
                · rw [if_neg c11] at H
                  have c11b0 : ((wrap64 (x4_1 + 1)) == (t115.length : Int)) = false := beq_eq_false_iff_ne.mpr c11
                  have c11b1 : ((wrap64 (x4_1 + 1)) != (t115.length : Int)) = true := bne_iff_ne.mpr c11
                  replace H := Option.bind_eq_some_iff.mp H
                  obtain ⟨t122, A130, H⟩ := H
                  replace H : (if t122 = true then (spec_Filtering.l0 k1 a0 t115 (wrap64 (x4_1 + 1))) else (some false)) = some r := H
                  have A13 := Aside0.mk A130
                  clear A130
                  by_cases c14 : t122 = true
                  · subst c14
                    have H1 : (spec_Filtering.l0 k1 a0 t115 (wrap64 (x4_1 + 1))) = some r := by rw [if_pos rfl] at H; exact H
                    clear H
                    have H := H1
                    clear H1
                    have H' := Aside0.mk H
                    clear H
                    obtain ⟨Ao15, co15, eo15⟩ := Kd.R_slice HO_3.out
                    subst eo15
                    have p118 : 0 ≤ (x4_1 : Int) := of_decide_eq_true (by first | (with_reducible assumption) | assumption)
                    have q118 : x4_1 < (t115.length : Int) := of_decide_eq_true (by first | (with_reducible assumption) | assumption)
                    obtain ⟨ad118, e118, hx118_0⟩ := Kd.at_string (Kd.R_reads' HO_3.out).2.2 x4_1 p118 q118
                    cases e118
                    replace p118 := eq_true p118
                    replace q118 := eq_true q118
                    have p119 : 0 ≤ (x4_1 : Int) := of_decide_eq_true (by first | (with_reducible assumption) | assumption)
                    have q119 : x4_1 < (t115.length : Int) := of_decide_eq_true (by first | (with_reducible assumption) | assumption)
                    obtain ⟨ad119, e119, hx119_0⟩ := Kd.at_string (Kd.R_reads' HO_3.out).2.2 x4_1 p119 q119
                    obtain rfl : ad118 = ad119 := (by injection e119)
                    replace p119 := eq_true p119
                    replace q119 := eq_true q119
                    have p120 : 0 ≤ (x4_1 : Int) := of_decide_eq_true (by first | (with_reducible assumption) | assumption)
                    have q120 : x4_1 < (t115.length : Int) := of_decide_eq_true (by first | (with_reducible assumption) | assumption)
                    obtain ⟨ad120, e120, hx120_0⟩ := Kd.at_string (Kd.R_reads' HO_3.out).2.2 x4_1 p120 q120
                    obtain rfl : ad118 = ad120 := (by injection e120)
                    replace p120 := eq_true p120
                    replace q120 := eq_true q120
                    have p121 : 0 ≤ (x4_1 : Int) := of_decide_eq_true (by first | (with_reducible assumption) | assumption)
                    have q121 : x4_1 < (t115.length : Int) := of_decide_eq_true (by first | (with_reducible assumption) | assumption)
                    obtain ⟨ad121, e121, hx121_0⟩ := Kd.at_string (Kd.R_reads' HO_3.out).2.2 x4_1 p121 q121
                    obtain rfl : ad118 = ad121 := (by injection e121)
                    replace p121 := eq_true p121
                    replace q121 := eq_true q121
                    go_wp2_with (first | (go_at_call 41; (with_reducible refine (spec_Topical.calls k1 (rdOf ByteArray.empty t115 x4_1) true _ A13.out).mono ?_); rintro e w' ⟨rfl, ⟨nd, rfl⟩⟩))
                    go_roundg k1
                    case measure => have := HK1.out; omega
                    case rel => exact ⟨(wrap64 (x4_1 + 1)), (by first | rfl | (simp; done) | (simp [*]; done)), H', ⟨by have := HK1.out; omega⟩, ⟨by (with_reducible repeat (first | apply Kd.R_alloc | apply Kd.R_drewN | apply Kd.R_drew)); exact HO_3.out⟩, ⟨by repeat (first | (with_reducible first | exact HB.out | apply below_alloc | apply pw_below_drewN | apply below_drew1) | exact HB.out)⟩⟩
                  · replace c14 := Bool.eq_false_iff.mpr c14
                    subst c14
                    have H1 : (some false) = some r := by rw [if_neg (show ¬ (false = true) by decide)] at H; exact H
                    clear H
                    have H := H1
                    clear H1
                    obtain rfl := Option.some.inj H
                    obtain ⟨Ao16, co16, eo16⟩ := Kd.R_slice HO_3.out
                    subst eo16
                    have p118 : 0 ≤ (x4_1 : Int) := of_decide_eq_true (by first | (with_reducible assumption) | assumption)
                    have q118 : x4_1 < (t115.length : Int) := of_decide_eq_true (by first | (with_reducible assumption) | assumption)
                    obtain ⟨ad118, e118, hx118_0⟩ := Kd.at_string (Kd.R_reads' HO_3.out).2.2 x4_1 p118 q118
                    cases e118
                    replace p118 := eq_true p118
                    replace q118 := eq_true q118
                    have p119 : 0 ≤ (x4_1 : Int) := of_decide_eq_true (by first | (with_reducible assumption) | assumption)
                    have q119 : x4_1 < (t115.length : Int) := of_decide_eq_true (by first | (with_reducible assumption) | assumption)
                    obtain ⟨ad119, e119, hx119_0⟩ := Kd.at_string (Kd.R_reads' HO_3.out).2.2 x4_1 p119 q119
                    obtain rfl : ad118 = ad119 := (by injection e119)
                    replace p119 := eq_true p119
                    replace q119 := eq_true q119
                    have p120 : 0 ≤ (x4_1 : Int) := of_decide_eq_true (by first | (with_reducible assumption) | assumption)
                    have q120 : x4_1 < (t115.length : Int) := of_decide_eq_true (by first | (with_reducible assumption) | assumption)
                    obtain ⟨ad120, e120, hx120_0⟩ := Kd.at_string (Kd.R_reads' HO_3.out).2.2 x4_1 p120 q120
                    obtain rfl : ad118 = ad120 := (by injection e120)
                    replace p120 := eq_true p120
                    replace q120 := eq_true q120
                    have p121 : 0 ≤ (x4_1 : Int) := of_decide_eq_true (by first | (with_reducible assumption) | assumption)
                    have q121 : x4_1 < (t115.length : Int) := of_decide_eq_true (by first | (with_reducible assumption) | assumption)
                    obtain ⟨ad121, e121, hx121_0⟩ := Kd.at_string (Kd.R_reads' HO_3.out).2.2 x4_1 p121 q121
                    obtain rfl : ad118 = ad121 := (by injection e121)
                    replace p121 := eq_true p121
                    replace q121 := eq_true q121
                    go_wp2_with (first | (go_at_call 41; (with_reducible refine (spec_Topical.calls k1 (rdOf ByteArray.empty t115 x4_1) false _ A13.out).mono ?_); rintro e w' ⟨rfl, ⟨nd, rfl⟩⟩))
                    go_ret
                    exact ⟨by first | rfl | (simp [errW_none, errW_some] <;> rfl) | (simp [*, errW_none, errW_some] <;> rfl) | (simp [errW_none, errW_some]; generalize ByteArray.toList _ = l_; cases l_ <;> rfl), by repeat (first | (with_reducible first | exact HB.out | apply below_alloc | apply pw_below_drewN | apply below_drew1) | exact HB.out)⟩
              · rw [if_neg c10] at H
                have c10b0 : ((rdOf ByteArray.empty t115 x4_1).toList == ([35] : List UInt8)) = false := beq_eq_false_iff_ne.mpr c10
                have c10b1 : ((rdOf ByteArray.empty t115 x4_1).toList != ([35] : List UInt8)) = true := bne_iff_ne.mpr c10
                replace H := Option.bind_eq_some_iff.mp H
                obtain ⟨t124, A170, H⟩ := H
                replace H : (if t124 = true then (spec_Filtering.l0 k1 a0 t115 (wrap64 (x4_1 + 1))) else (some false)) = some r := H
                have A17 := Aside0.mk A170
                clear A170
                by_cases c18 : t124 = true
                · subst c18
                  have H1 : (spec_Filtering.l0 k1 a0 t115 (wrap64 (x4_1 + 1))) = some r := by rw [if_pos rfl] at H; exact H
                  clear H
                  have H := H1
                  clear H1
                  have H' := Aside0.mk H
                  clear H
                  obtain ⟨Ao19, co19, eo19⟩ := Kd.R_slice HO_3.out
                  subst eo19
                  have p118 : 0 ≤ (x4_1 : Int) := of_decide_eq_true (by first | (with_reducible assumption) | assumption)
                  have q118 : x4_1 < (t115.length : Int) := of_decide_eq_true (by first | (with_reducible assumption) | assumption)
                  obtain ⟨ad118, e118, hx118_0⟩ := Kd.at_string (Kd.R_reads' HO_3.out).2.2 x4_1 p118 q118
                  cases e118
                  replace p118 := eq_true p118
                  replace q118 := eq_true q118
                  have p119 : 0 ≤ (x4_1 : Int) := of_decide_eq_true (by first | (with_reducible assumption) | assumption)
                  have q119 : x4_1 < (t115.length : Int) := of_decide_eq_true (by first | (with_reducible assumption) | assumption)
                  obtain ⟨ad119, e119, hx119_0⟩ := Kd.at_string (Kd.R_reads' HO_3.out).2.2 x4_1 p119 q119
                  obtain rfl : ad118 = ad119 := (by injection e119)
                  replace p119 := eq_true p119
                  replace q119 := eq_true q119
                  have p120 : 0 ≤ (x4_1 : Int) := of_decide_eq_true (by first | (with_reducible assumption) | assumption)
                  have q120 : x4_1 < (t115.length : Int) := of_decide_eq_true (by first | (with_reducible assumption) | assumption)
                  obtain ⟨ad120, e120, hx120_0⟩ := Kd.at_string (Kd.R_reads' HO_3.out).2.2 x4_1 p120 q120
                  obtain rfl : ad118 = ad120 := (by injection e120)
                  replace p120 := eq_true p120
                  replace q120 := eq_true q120
                  have p123 : 0 ≤ (x4_1 : Int) := of_decide_eq_true (by first | (with_reducible assumption) | assumption)
                  have q123 : x4_1 < (t115.length : Int) := of_decide_eq_true (by first | (with_reducible assumption) | assumption)
                  obtain ⟨ad123, e123, hx123_0⟩ := Kd.at_string (Kd.R_reads' HO_3.out).2.2 x4_1 p123 q123
                  obtain rfl : ad118 = ad123 := (by injection e123)
                  replace p123 := eq_true p123
                  replace q123 := eq_true q123
                  go_wp2_with (first | (go_at_call 41; (with_reducible refine (spec_Topical.calls k1 (rdOf ByteArray.empty t115 x4_1) true _ A17.out).mono ?_); rintro e w' ⟨rfl, ⟨nd, rfl⟩⟩))
                  go_roundg k1
                  case measure => have := HK1.out; omega
                  case rel => exact ⟨(wrap64 (x4_1 + 1)), (by first | rfl | (simp; done) | (simp [*]; done)), H', ⟨by have := HK1.out; omega⟩, ⟨by (with_reducible repeat (first | apply Kd.R_alloc | apply Kd.R_drewN | apply Kd.R_drew)); exact HO_3.out⟩, ⟨by repeat (first | (with_reducible first | exact HB.out | apply below_alloc | apply pw_below_drewN | apply below_drew1) | exact HB.out)⟩⟩
                · replace c18 := Bool.eq_false_iff.mpr c18
                  subst c18
                  have H1 : (some false) = some r := by rw [if_neg (show ¬ (false = true) by decide)] at H; exact H
                  clear H
                  have H := H1
                  clear H1
                  obtain rfl := Option.some.inj H
                  obtain ⟨Ao20, co20, eo20⟩ := Kd.R_slice HO_3.out
                  subst eo20
                  have p118 : 0 ≤ (x4_1 : Int) := of_decide_eq_true (by first | (with_reducible assumption) | assumption)
                  have q118 : x4_1 < (t115.length : Int) := of_decide_eq_true (by first | (with_reducible assumption) | assumption)
                  obtain ⟨ad118, e118, hx118_0⟩ := Kd.at_string (Kd.R_reads' HO_3.out).2.2 x4_1 p118 q118
                  cases e118
                  replace p118 := eq_true p118
                  replace q118 := eq_true q118
                  have p119 : 0 ≤ (x4_1 : Int) := of_decide_eq_true (by first | (with_reducible assumption) | assumption)
                  have q119 : x4_1 < (t115.length : Int) := of_decide_eq_true (by first | (with_reducible assumption) | assumption)
                  obtain ⟨ad119, e119, hx119_0⟩ := Kd.at_string (Kd.R_reads' HO_3.out).2.2 x4_1 p119 q119
                  obtain rfl : ad118 = ad119 := (by injection e119)
                  replace p119 := eq_true p119
                  replace q119 := eq_true q119
                  have p120 : 0 ≤ (x4_1 : Int) := of_decide_eq_true (by first | (with_reducible assumption) | assumption)
                  have q120 : x4_1 < (t115.length : Int) := of_decide_eq_true (by first | (with_reducible assumption) | assumption)
                  obtain ⟨ad120, e120, hx120_0⟩ := Kd.at_string (Kd.R_reads' HO_3.out).2.2 x4_1 p120 q120
                  obtain rfl : ad118 = ad120 := (by injection e120)
                  replace p120 := eq_true p120
                  replace q120 := eq_true q120
                  have p123 : 0 ≤ (x4_1 : Int) := of_decide_eq_true (by first | (with_reducible assumption) | assumption)
                  have q123 : x4_1 < (t115.length : Int) := of_decide_eq_true (by first | (with_reducible assumption) | assumption)
                  obtain ⟨ad123, e123, hx123_0⟩ := Kd.at_string (Kd.R_reads' HO_3.out).2.2 x4_1 p123 q123
                  obtain rfl : ad118 = ad123 := (by injection e123)
                  replace p123 := eq_true p123
                  replace q123 := eq_true q123
                  go_wp2_with (first | (go_at_call 41; (with_reducible refine (spec_Topical.calls k1 (rdOf ByteArray.empty t115 x4_1) false _ A17.out).mono ?_); rintro e w' ⟨rfl, ⟨nd, rfl⟩⟩))
                  go_ret
                  exact ⟨by first | rfl | (simp [errW_none, errW_some] <;> rfl) | (simp [*, errW_none, errW_some] <;> rfl) | (simp [errW_none, errW_some]; generalize ByteArray.toList _ = l_; cases l_ <;> rfl), by repeat (first | (with_reducible first | exact HB.out | apply below_alloc | apply pw_below_drewN | apply below_drew1) | exact HB.out)⟩
        · rw [if_neg c5] at H
          exact absurd H (by simp)
      · rw [if_neg c4] at H
        have c4b0 : decide (x4_1 < (t115.length : Int)) = false := decide_eq_false c4
        clear c4
        obtain rfl := Option.some.inj H
        obtain ⟨Ao21, co21, eo21⟩ := Kd.R_slice HO_3.out
        subst eo21
        go_wp2
        go_ret
        exact ⟨by first | rfl | (simp [errW_none, errW_some] <;> rfl) | (simp [*, errW_none, errW_some] <;> rfl) | (simp [errW_none, errW_some]; generalize ByteArray.toList _ = l_; cases l_ <;> rfl), by repeat (first | (with_reducible first | exact HB.out | apply below_alloc | apply pw_below_drewN | apply below_drew1) | exact HB.out)⟩

/-! ### laws_filter: function 24 -/
def laws_filter.f (k : Nat) (a0 : ByteArray) : Option (Bool) := if (a0.size : Int) ≤ 100 then ((spec_Filtering.f k a0).bind fun t125 => (some t125)) else (some false)
theorem laws_filter.mono : ∀ a0 k, LeO (laws_filter.f k a0) (laws_filter.f (k + 1) a0) := by
  intro a0 k
  unfold laws_filter.f
  repeat' first
      | (with_reducible exact spec_Filtering.mono _ _)
      | (with_reducible exact LeO.refl _)
      | (with_reducible exact LeO.none _)
      | (with_reducible refine LeO.ite ?_ ?_)
      | (with_reducible refine LeO.bind ?_ (fun _ => ?_))
      | exact spec_Filtering.mono _ _
      | exact LeO.none _
      | refine LeO.ite ?_ ?_
      | refine LeO.bind ?_ (fun _ => ?_)
set_option maxHeartbeats 8000000 in
set_option maxRecDepth 100000 in
theorem laws_filter.calls (k : Nat) (a0 : ByteArray) (r : Bool) (w : World) (h : laws_filter.f k a0 = some r) :
    Calls Tryd.prog 24 #[.string a0] w fun e w' => e = .returned (.bool r) ∧ Below w.heap.size w w' := by
  have HB := Aside0.mk (Below.refl w.heap.size w)
  have H : (if (a0.size : Int) ≤ 100 then ((spec_Filtering.f k a0).bind fun t125 => (some t125)) else (some false)) = some r := h
  clear h
  by_cases c2 : (a0.size : Int) ≤ 100
  · rw [if_pos c2] at H
    have c2b0 : decide ((a0.size : Int) ≤ 100) = true := decide_eq_true c2
    have c2b1 : decide (a0.size ≤ 100) = true := decide_eq_true (by omega)
    clear c2
    replace H := Option.bind_eq_some_iff.mp H
    obtain ⟨t125, A30, H⟩ := H
    replace H : (some t125) = some r := H
    have A3 := Aside0.mk A30
    clear A30
    obtain rfl := Option.some.inj H
    go_enter Tryd.func24, Tryd.ntmps24
    go_wp2_with (first | (go_at_call 43; (with_reducible refine (spec_Filtering.calls k a0 t125 _ A3.out).mono ?_); rintro e w4 ⟨rfl, hb⟩; have n0_ := Aside0.mk (below_step (by repeat (first | (with_reducible first | exact HB.out | apply below_alloc | apply pw_below_drewN | apply below_drew1) | exact HB.out)) hb); clear HB; have HB := n0_; clear n0_; (try clear hb); (try clear hb2); (try clear hk); (try clear hi)))
    go_ret
    exact ⟨by first | rfl | (simp [errW_none, errW_some] <;> rfl) | (simp [*, errW_none, errW_some] <;> rfl) | (simp [errW_none, errW_some]; generalize ByteArray.toList _ = l_; cases l_ <;> rfl), by repeat (first | (with_reducible first | exact HB.out | apply below_alloc | apply pw_below_drewN | apply below_drew1) | exact HB.out)⟩
  · rw [if_neg c2] at H
    have c2b0 : decide ((a0.size : Int) ≤ 100) = false := decide_eq_false c2
    have c2b1 : decide (a0.size ≤ 100) = false := decide_eq_false (by omega)
    clear c2
    obtain rfl := Option.some.inj H
    go_enter Tryd.func24, Tryd.ntmps24
    go_wp2
    go_ret
    exact ⟨by first | rfl | (simp [errW_none, errW_some] <;> rfl) | (simp [*, errW_none, errW_some] <;> rfl) | (simp [errW_none, errW_some]; generalize ByteArray.toList _ = l_; cases l_ <;> rfl), by repeat (first | (with_reducible first | exact HB.out | apply below_alloc | apply pw_below_drewN | apply below_drew1) | exact HB.out)⟩

/-! ### server_mqttNeedSubForLevelUp: function 56 -/
def server_mqttNeedSubForLevelUp.f (a0 : ByteArray) : Option (Bool) := if (a0.size : Int) < 3 then (some false) else (if 0 ≤ (wrap64 ((a0.size : Int) - 2)) then (if (wrap64 ((a0.size : Int) - 2)) < (a0.size : Int) then (if (bt a0 (wrap64 ((a0.size : Int) - 2))) = 46 then (if 0 ≤ (wrap64 ((a0.size : Int) - 1)) then (if (wrap64 ((a0.size : Int) - 1)) < (a0.size : Int) then (if (bt a0 (wrap64 ((a0.size : Int) - 1))) = 62 then (some true) else (some false)) else (none)) else (none)) else (some false)) else (none)) else (none))
set_option maxHeartbeats 8000000 in
set_option maxRecDepth 100000 in
theorem server_mqttNeedSubForLevelUp.calls (a0 : ByteArray) (r : Bool) (w : World) (h : server_mqttNeedSubForLevelUp.f a0 = some r) :
    Calls Tryd.prog 56 #[.string a0] w fun e w' => e = .returned (.bool r) ∧ Drawn0 w w' := by
  have H : (if (a0.size : Int) < 3 then (some false) else (if 0 ≤ (wrap64 ((a0.size : Int) - 2)) then (if (wrap64 ((a0.size : Int) - 2)) < (a0.size : Int) then (if (bt a0 (wrap64 ((a0.size : Int) - 2))) = 46 then (if 0 ≤ (wrap64 ((a0.size : Int) - 1)) then (if (wrap64 ((a0.size : Int) - 1)) < (a0.size : Int) then (if (bt a0 (wrap64 ((a0.size : Int) - 1))) = 62 then (some true) else (some false)) else (none)) else (none)) else (some false)) else (none)) else (none))) = some r := h
  clear h
  by_cases c2 : (a0.size : Int) < 3
  · rw [if_pos c2] at H
    have c2b0 : decide ((a0.size : Int) < 3) = true := decide_eq_true c2
    have c2b1 : decide (a0.size < 3) = true := decide_eq_true (by omega)
    clear c2
    obtain rfl := Option.some.inj H
    go_enter Tryd.func56, Tryd.ntmps56
    go_wp2
    go_ret
    exact ⟨by first | rfl | (simp; done) | (simp [*]; done) | (simp; generalize ByteArray.toList _ = l_; cases l_ <;> rfl), by repeat (first | exact Drawn0.refl _ | apply Drawn0.step)⟩
  · rw [if_neg c2] at H
    have c2b0 : decide ((a0.size : Int) < 3) = false := decide_eq_false c2
    have c2b1 : decide (a0.size < 3) = false := decide_eq_false (by omega)
    clear c2
    obtain ⟨ji3, hji3⟩ : ∃ j_ : Int, (wrap64 ((a0.size : Int) - 2)) = j_ := ⟨_, rfl⟩
    replace H : (if 0 ≤ (ji3) then (if (ji3) < (a0.size : Int) then (if (bt a0 (ji3)) = 46 then (if 0 ≤ (wrap64 ((a0.size : Int) - 1)) then (if (wrap64 ((a0.size : Int) - 1)) < (a0.size : Int) then (if (bt a0 (wrap64 ((a0.size : Int) - 1))) = 62 then (some true) else (some false)) else (none)) else (none)) else (some false)) else (none)) else (none)) = some r := by first | (rw [hji3] at H; exact H) | (simp only [hji3] at H ⊢; exact H)
    have hji3w : (IntKind.i64.wrap ((a0.size : Int) - 2)) = ji3 := (i64_w _).trans hji3
    by_cases c4 : 0 ≤ (ji3)
    · rw [if_pos c4] at H
      have c4b0 : decide (0 ≤ (ji3)) = true := decide_eq_true c4
      clear c4
      by_cases c5 : (ji3) < (a0.size : Int)
      · rw [if_pos c5] at H
        have c5b0 : decide ((ji3) < (a0.size : Int)) = true := decide_eq_true c5
        clear c5
        by_cases c7 : (bt a0 (ji3)) = 46
        · rw [if_pos c7] at H
          have c7b0 : ((bt a0 (ji3)) == 46) = true := beq_iff_eq.mpr c7
          have c7b1 : ((bt a0 (ji3)) != 46) = false := bne_eq_false_iff_eq.mpr c7
          clear c7
          obtain ⟨ji8, hji8⟩ : ∃ j_ : Int, (wrap64 ((a0.size : Int) - 1)) = j_ := ⟨_, rfl⟩
          replace H : (if 0 ≤ (ji8) then (if (ji8) < (a0.size : Int) then (if (bt a0 (ji8)) = 62 then (some true) else (some false)) else (none)) else (none)) = some r := by first | (rw [hji8] at H; exact H) | (simp only [hji8] at H ⊢; exact H)
          have hji8w : (IntKind.i64.wrap ((a0.size : Int) - 1)) = ji8 := (i64_w _).trans hji8
          by_cases c9 : 0 ≤ (ji8)
          · rw [if_pos c9] at H
            have c9b0 : decide (0 ≤ (ji8)) = true := decide_eq_true c9
            clear c9
            by_cases c10 : (ji8) < (a0.size : Int)
            · rw [if_pos c10] at H
              have c10b0 : decide ((ji8) < (a0.size : Int)) = true := decide_eq_true c10
              clear c10
              by_cases c12 : (bt a0 (ji8)) = 62
              · rw [if_pos c12] at H
                have c12b0 : ((bt a0 (ji8)) == 62) = true := beq_iff_eq.mpr c12
                have c12b1 : ((bt a0 (ji8)) != 62) = false := bne_eq_false_iff_eq.mpr c12
                clear c12
                obtain rfl := Option.some.inj H
                have p6 : 0 ≤ ((ji3) : Int) := of_decide_eq_true (by first | (with_reducible assumption) | assumption)
                have q6 : (ji3) < (a0.size : Int) := of_decide_eq_true (by first | (with_reducible assumption) | assumption)
                have hx6 := bt_at a0 (ji3)
                replace p6 := eq_true p6
                replace q6 := eq_true q6
                have p11 : 0 ≤ ((ji8) : Int) := of_decide_eq_true (by first | (with_reducible assumption) | assumption)
                have q11 : (ji8) < (a0.size : Int) := of_decide_eq_true (by first | (with_reducible assumption) | assumption)
                have hx11 := bt_at a0 (ji8)
                replace p11 := eq_true p11
                replace q11 := eq_true q11
                go_enter Tryd.func56, Tryd.ntmps56
                go_wp2
                go_ret
                exact ⟨by first | rfl | (simp; done) | (simp only [← hji3, ← hji8] <;> (first | rfl | simp)) | (simp [*]; done), by repeat (first | exact Drawn0.refl _ | apply Drawn0.step)⟩
              · rw [if_neg c12] at H
                have c12b0 : ((bt a0 (ji8)) == 62) = false := beq_eq_false_iff_ne.mpr c12
                have c12b1 : ((bt a0 (ji8)) != 62) = true := bne_iff_ne.mpr c12
                obtain rfl := Option.some.inj H
                have p6 : 0 ≤ ((ji3) : Int) := of_decide_eq_true (by first | (with_reducible assumption) | assumption)
                have q6 : (ji3) < (a0.size : Int) := of_decide_eq_true (by first | (with_reducible assumption) | assumption)
                have hx6 := bt_at a0 (ji3)
                replace p6 := eq_true p6
                replace q6 := eq_true q6
                have p11 : 0 ≤ ((ji8) : Int) := of_decide_eq_true (by first | (with_reducible assumption) | assumption)
                have q11 : (ji8) < (a0.size : Int) := of_decide_eq_true (by first | (with_reducible assumption) | assumption)
                have hx11 := bt_at a0 (ji8)
                replace p11 := eq_true p11
                replace q11 := eq_true q11
                go_enter Tryd.func56, Tryd.ntmps56
                go_wp2
                go_ret
                exact ⟨by first | rfl | (simp; done) | (simp only [← hji3, ← hji8] <;> (first | rfl | simp)) | (simp [*]; done), by repeat (first | exact Drawn0.refl _ | apply Drawn0.step)⟩
            · rw [if_neg c10] at H
              exact absurd H (by simp)
          · rw [if_neg c9] at H
            exact absurd H (by simp)
        · rw [if_neg c7] at H
          have c7b0 : ((bt a0 (ji3)) == 46) = false := beq_eq_false_iff_ne.mpr c7
          have c7b1 : ((bt a0 (ji3)) != 46) = true := bne_iff_ne.mpr c7
          obtain rfl := Option.some.inj H
          have p6 : 0 ≤ ((ji3) : Int) := of_decide_eq_true (by first | (with_reducible assumption) | assumption)
          have q6 : (ji3) < (a0.size : Int) := of_decide_eq_true (by first | (with_reducible assumption) | assumption)
          have hx6 := bt_at a0 (ji3)
          replace p6 := eq_true p6
          replace q6 := eq_true q6
          go_enter Tryd.func56, Tryd.ntmps56
          go_wp2
          go_ret
          exact ⟨by first | rfl | (simp; done) | (simp only [← hji3] <;> (first | rfl | simp)) | (simp [*]; done), by repeat (first | exact Drawn0.refl _ | apply Drawn0.step)⟩
      · rw [if_neg c5] at H
        exact absurd H (by simp)
    · rw [if_neg c4] at H
      exact absurd H (by simp)

/-! ### server_NeedsLevelUp: function 44 -/
def server_NeedsLevelUp.f (a0 : ByteArray) : Option (Bool) := (server_mqttNeedSubForLevelUp.f a0).bind fun t126 => (some t126)
set_option maxHeartbeats 8000000 in
set_option maxRecDepth 100000 in
theorem server_NeedsLevelUp.calls (a0 : ByteArray) (r : Bool) (w : World) (h : server_NeedsLevelUp.f a0 = some r) :
    Calls Tryd.prog 44 #[.string a0] w fun e w' => e = .returned (.bool r) ∧ Drawn0 w w' := by
  have H : ((server_mqttNeedSubForLevelUp.f a0).bind fun t126 => (some t126)) = some r := h
  clear h
  replace H := Option.bind_eq_some_iff.mp H
  obtain ⟨t126, A20, H⟩ := H
  replace H : (some t126) = some r := H
  have A2 := Aside0.mk A20
  clear A20
  obtain rfl := Option.some.inj H
  go_enter Tryd.func44, Tryd.ntmps44
  go_wp2_with (first | ((with_reducible refine gate_callee (f := 56) rfl ?_); refine goesL_ (some 4) rfl rfl Tryd.func56 (by kernel_rfl) rfl #[.string a0] rfl (by (try simp only [List.map_toArray, List.map_cons, List.map_nil]); first | done | rfl | (simp only [List.length_drop, List.length_take]; rfl)) ?_; (with_reducible refine (server_mqttNeedSubForLevelUp.calls a0 t126 _ A2.out).mono ?_); rintro e w' ⟨rfl, ⟨nd, rfl⟩⟩; refine ⟨_, rfl, ?_⟩))
  go_ret
  exact ⟨by first | rfl | (simp; done) | (simp [*]; done) | (simp; generalize ByteArray.toList _ = l_; cases l_ <;> rfl), by repeat (first | exact Drawn0.refl _ | apply Drawn0.step)⟩

/-! ### impl_NeedsUp: function 25 -/
def impl_NeedsUp.f (a0 : ByteArray) : Option (Bool) := (server_NeedsLevelUp.f a0).bind fun t127 => (some t127)
set_option maxHeartbeats 8000000 in
set_option maxRecDepth 100000 in
theorem impl_NeedsUp.calls (a0 : ByteArray) (r : Bool) (w : World) (h : impl_NeedsUp.f a0 = some r) :
    Calls Tryd.prog 25 #[.string a0] w fun e w' => e = .returned (.bool r) ∧ Drawn0 w w' := by
  have H : ((server_NeedsLevelUp.f a0).bind fun t127 => (some t127)) = some r := h
  clear h
  replace H := Option.bind_eq_some_iff.mp H
  obtain ⟨t127, A20, H⟩ := H
  replace H : (some t127) = some r := H
  have A2 := Aside0.mk A20
  clear A20
  obtain rfl := Option.some.inj H
  go_enter Tryd.func25, Tryd.ntmps25
  go_wp2_with (first | ((with_reducible refine gate_callee (f := 44) rfl ?_); refine goesL_ (some 4) rfl rfl Tryd.func44 (by kernel_rfl) rfl #[.string a0] rfl (by (try simp only [List.map_toArray, List.map_cons, List.map_nil]); first | done | rfl | (simp only [List.length_drop, List.length_take]; rfl)) ?_; (with_reducible refine (server_NeedsLevelUp.calls a0 t127 _ A2.out).mono ?_); rintro e w' ⟨rfl, ⟨nd, rfl⟩⟩; refine ⟨_, rfl, ?_⟩))
  go_ret
  exact ⟨by first | rfl | (simp; done) | (simp [*]; done) | (simp; generalize ByteArray.toList _ = l_; cases l_ <;> rfl), by repeat (first | exact Drawn0.refl _ | apply Drawn0.step)⟩

/-! ### spec_level: function 46 -/
def spec_level.l0 : Nat → ByteArray → ByteArray → Int → Option (ByteArray)
  | 0, _, _, _ => none
  | k + 1, x0, x3, x4 => if x4 < (x0.size : Int) then (if 0 ≤ x4 then (if (bt x0 x4) = 46 then (if x3.size + 2 ≤ 9223372036854775807 then (spec_level.l0 k x0 (x3 ++ (⟨#[47, 47]⟩ : ByteArray)) (wrap64 (x4 + 1))) else (none)) else (if x4 ≤ (wrap64 (x4 + 1)) then (if (wrap64 (x4 + 1)) ≤ (x0.size : Int) then (if x3.size + (x0.extract (x4 : Int).toNat ((wrap64 (x4 + 1)) : Int).toNat).size ≤ 9223372036854775807 then (spec_level.l0 k x0 (x3 ++ (x0.extract (x4 : Int).toNat ((wrap64 (x4 + 1)) : Int).toNat)) (wrap64 (x4 + 1))) else (none)) else (none)) else (none))) else (none)) else (some x3)
def spec_level.f (k : Nat) (a0 : ByteArray) : Option (ByteArray) := if a0.toList = ([] : List UInt8) then (some (⟨#[47]⟩ : ByteArray)) else (spec_level.l0 k a0 (⟨#[]⟩ : ByteArray) 0)
theorem spec_level.mono_l : ∀ k, (∀ y0 y1 y2, LeO (spec_level.l0 k y0 y1 y2) (spec_level.l0 (k + 1) y0 y1 y2))
  | 0 => fun _ _ _ r h => by simp [spec_level.l0] at h
  | k + 1 => by
    have ih0 := spec_level.mono_l k
    · intro y0 y1 y2
      unfold spec_level.l0
      repeat' first
      | (with_reducible exact ih0 _ _ _)
      | (with_reducible exact LeO.refl _)
      | (with_reducible exact LeO.none _)
      | (with_reducible refine LeO.ite ?_ ?_)
      | (with_reducible refine LeO.bind ?_ (fun _ => ?_))
      | exact ih0 _ _ _
      | exact LeO.none _
      | refine LeO.ite ?_ ?_
      | refine LeO.bind ?_ (fun _ => ?_)
theorem spec_level.mono : ∀ a0 k, LeO (spec_level.f k a0) (spec_level.f (k + 1) a0) := by
  intro a0 k
  have ih0 := spec_level.mono_l k
  unfold spec_level.f
  repeat' first
      | (with_reducible exact ih0 _ _ _)
      | (with_reducible exact LeO.refl _)
      | (with_reducible exact LeO.none _)
      | (with_reducible refine LeO.ite ?_ ?_)
      | (with_reducible refine LeO.bind ?_ (fun _ => ?_))
      | exact ih0 _ _ _
      | exact LeO.none _
      | refine LeO.ite ?_ ?_
      | refine LeO.bind ?_ (fun _ => ?_)
set_option maxHeartbeats 8000000 in
set_option maxRecDepth 100000 in
theorem spec_level.calls (k : Nat) (a0 : ByteArray) (r : ByteArray) (w : World) (h : spec_level.f k a0 = some r) :
    Calls Tryd.prog 46 #[.string a0] w fun e w' => e = .returned (.string r) ∧ Drawn0 w w' := by
  have H : (if a0.toList = ([] : List UInt8) then (some (⟨#[47]⟩ : ByteArray)) else (spec_level.l0 k a0 (⟨#[]⟩ : ByteArray) 0)) = some r := h
  clear h
  by_cases c2 : a0.toList = ([] : List UInt8)
  · rw [if_pos c2] at H
    have c2b0 : (a0.toList == ([] : List UInt8)) = true := beq_iff_eq.mpr c2
    have c2b1 : (a0.toList != ([] : List UInt8)) = false := bne_eq_false_iff_eq.mpr c2
    clear c2
    obtain rfl := Option.some.inj H
    go_enter Tryd.func46, Tryd.ntmps46
    go_wp2
    go_ret
    exact ⟨by first | rfl | (simp; done) | (simp [*]; done) | (simp; generalize ByteArray.toList _ = l_; cases l_ <;> rfl), by repeat (first | exact Drawn0.refl _ | apply Drawn0.step)⟩
  · rw [if_neg c2] at H
    have c2b0 : (a0.toList == ([] : List UInt8)) = false := beq_eq_false_iff_ne.mpr c2
    have c2b1 : (a0.toList != ([] : List UInt8)) = true := bne_iff_ne.mpr c2
    have H' := Aside0.mk H
    clear H
    go_enter Tryd.func46, Tryd.ntmps46
    go_wp2
    go_loopg [3, 4] k (fun kq v3 v4 w' => ∃ (x3_1 : ByteArray) (x4_1 : Int), v3 = .string x3_1 ∧ v4 = .int .i64 x4_1 ∧ Aside0 (spec_level.l0 kq a0 x3_1 x4_1 = some r) ∧ Aside0 (kq ≤ k) ∧ Drawn0 w w')
    case atStart => exact ⟨((⟨#[]⟩ : ByteArray)), (0), (by first | rfl | (simp; done) | (simp [*]; done)), (by first | rfl | (simp; done) | (simp [*]; done)), H', ⟨Nat.le_refl _⟩, by repeat (first | exact Drawn0.refl _ | apply Drawn0.step)⟩
    case round =>
      clear H'
      try clear c2
      try clear c2b0
      try clear c2b1
      try clear p2
      obtain ⟨x3_1, x4_1, rfl, rfl, HA, HK1, ⟨m1, rfl⟩⟩ := hrel
      cases gk with
      | zero => exact absurd HA.out (by simp [spec_level.l0])
      | succ k1 =>
        have H := HA.out
        clear HA
        simp only [spec_level.l0] at H
        by_cases c3 : x4_1 < (a0.size : Int)
        · rw [if_pos c3] at H
          have c3b0 : decide (x4_1 < (a0.size : Int)) = true := decide_eq_true c3
          clear c3
          by_cases c4 : 0 ≤ x4_1
          · rw [if_pos c4] at H
            have c4b0 : decide (0 ≤ x4_1) = true := decide_eq_true c4
            clear c4
            by_cases c6 : (bt a0 x4_1) = 46
            · rw [if_pos c6] at H
              have c6b0 : ((bt a0 x4_1) == 46) = true := beq_iff_eq.mpr c6
              have c6b1 : ((bt a0 x4_1) != 46) = false := bne_eq_false_iff_eq.mpr c6
              clear c6
              by_cases c7 : x3_1.size + 2 ≤ 9223372036854775807
              · rw [if_pos c7] at H
                have c7b0 := eq_true c7
                have c7b1 : decide (x3_1.size + 2 ≤ 9223372036854775807) = true := decide_eq_true c7
                try have c7b2 : (9223372036854775807 < x3_1.size + 2) = False := eq_false (Nat.not_lt.2 c7)
                have H' := Aside0.mk H
                clear H
                have p5 : 0 ≤ (x4_1 : Int) := of_decide_eq_true (by first | (with_reducible assumption) | assumption)
                have q5 : x4_1 < (a0.size : Int) := of_decide_eq_true (by first | (with_reducible assumption) | assumption)
                have hx5 := bt_at a0 x4_1
                replace p5 := eq_true p5
                replace q5 := eq_true q5
                go_wp2
                go_roundg k1
                case measure => have := HK1.out; omega
                case rel => exact ⟨(x3_1 ++ (⟨#[47, 47]⟩ : ByteArray)), (wrap64 (x4_1 + 1)), (by first | rfl | (simp; done) | (simp [*]; done)), (by first | rfl | (simp; done) | (simp [*]; done)), H', ⟨by have := HK1.out; omega⟩, by repeat (first | exact Drawn0.refl _ | apply Drawn0.step)⟩
              · rw [if_neg c7] at H
                exact absurd H (by simp)
            · rw [if_neg c6] at H
              have c6b0 : ((bt a0 x4_1) == 46) = false := beq_eq_false_iff_ne.mpr c6
              have c6b1 : ((bt a0 x4_1) != 46) = true := bne_iff_ne.mpr c6
              have c8b0 := eq_true (of_decide_eq_true (by first | (with_reducible assumption) | assumption) : 0 ≤ x4_1)
              by_cases c9 : x4_1 ≤ (wrap64 (x4_1 + 1))
              · rw [if_pos c9] at H
                have c9b0 := eq_true c9
                have c9b1 : decide (x4_1 ≤ (wrap64 (x4_1 + 1))) = true := decide_eq_true c9
                by_cases c10 : (wrap64 (x4_1 + 1)) ≤ (a0.size : Int)
                · rw [if_pos c10] at H
                  have c10b0 := eq_true c10
                  have c10b1 : decide ((wrap64 (x4_1 + 1)) ≤ (a0.size : Int)) = true := decide_eq_true c10
                  by_cases c11 : x3_1.size + (a0.extract (x4_1 : Int).toNat ((wrap64 (x4_1 + 1)) : Int).toNat).size ≤ 9223372036854775807
                  · rw [if_pos c11] at H
                    have c11b0 := eq_true c11
                    have c11b1 : decide (x3_1.size + (a0.extract (x4_1 : Int).toNat ((wrap64 (x4_1 + 1)) : Int).toNat).size ≤ 9223372036854775807) = true := decide_eq_true c11
                    try have c11b2 : (9223372036854775807 < x3_1.size + (a0.extract (x4_1 : Int).toNat ((wrap64 (x4_1 + 1)) : Int).toNat).size) = False := eq_false (Nat.not_lt.2 c11)
                    have H' := Aside0.mk H
                    clear H
                    have p5 : 0 ≤ (x4_1 : Int) := of_decide_eq_true (by first | (with_reducible assumption) | assumption)
                    have q5 : x4_1 < (a0.size : Int) := of_decide_eq_true (by first | (with_reducible assumption) | assumption)
                    have hx5 := bt_at a0 x4_1
                    replace p5 := eq_true p5
                    replace q5 := eq_true q5
                    go_wp2
                    go_roundg k1
                    case measure => have := HK1.out; omega
                    case rel => exact ⟨(x3_1 ++ (a0.extract (x4_1 : Int).toNat ((wrap64 (x4_1 + 1)) : Int).toNat)), (wrap64 (x4_1 + 1)), (by first | rfl | (simp; done) | (simp [*]; done)), (by first | rfl | (simp; done) | (simp [*]; done)), H', ⟨by have := HK1.out; omega⟩, by repeat (first | exact Drawn0.refl _ | apply Drawn0.step)⟩
                  · rw [if_neg c11] at H
                    exact absurd H (by simp)
                · rw [if_neg c10] at H
                  exact absurd H (by simp)
              · rw [if_neg c9] at H
                exact absurd H (by simp)
          · rw [if_neg c4] at H
            exact absurd H (by simp)
        · rw [if_neg c3] at H
          have c3b0 : decide (x4_1 < (a0.size : Int)) = false := decide_eq_false c3
          clear c3
          obtain rfl := Option.some.inj H
          go_wp2
          go_ret
          exact ⟨by first | rfl | (simp; done) | (simp [*]; done) | (simp; generalize ByteArray.toList _ = l_; cases l_ <;> rfl), by repeat (first | exact Drawn0.refl _ | apply Drawn0.step)⟩

/-! ### spec_Join: function 47 -/
def spec_Join.l0 : Nat → List ByteArray → ByteArray → Int → Option (ByteArray)
  | 0, _, _, _ => none
  | k + 1, x0, x3, x4 => if x4 < (x0.length : Int) then (if x4 > 0 then (if x3.size + 1 ≤ 9223372036854775807 then (if 0 ≤ x4 then (if (x3 ++ (⟨#[46]⟩ : ByteArray)).size + (rdOf ByteArray.empty x0 x4).size ≤ 9223372036854775807 then (spec_Join.l0 k x0 ((x3 ++ (⟨#[46]⟩ : ByteArray)) ++ (rdOf ByteArray.empty x0 x4)) (wrap64 (x4 + 1))) else (none)) else (none)) else (none)) else (if 0 ≤ x4 then (if x3.size + (rdOf ByteArray.empty x0 x4).size ≤ 9223372036854775807 then (spec_Join.l0 k x0 (x3 ++ (rdOf ByteArray.empty x0 x4)) (wrap64 (x4 + 1))) else (none)) else (none))) else (some x3)
def spec_Join.f (k : Nat) (l0 : List ByteArray) : Option (ByteArray) := spec_Join.l0 k l0 (⟨#[]⟩ : ByteArray) 0
theorem spec_Join.mono_l : ∀ k, (∀ y0 y1 y2, LeO (spec_Join.l0 k y0 y1 y2) (spec_Join.l0 (k + 1) y0 y1 y2))
  | 0 => fun _ _ _ r h => by simp [spec_Join.l0] at h
  | k + 1 => by
    have ih0 := spec_Join.mono_l k
    · intro y0 y1 y2
      unfold spec_Join.l0
      repeat' first
      | (with_reducible exact ih0 _ _ _)
      | (with_reducible exact LeO.refl _)
      | (with_reducible exact LeO.none _)
      | (with_reducible refine LeO.ite ?_ ?_)
      | (with_reducible refine LeO.bind ?_ (fun _ => ?_))
      | exact ih0 _ _ _
      | exact LeO.none _
      | refine LeO.ite ?_ ?_
      | refine LeO.bind ?_ (fun _ => ?_)
theorem spec_Join.mono : ∀ a0 k, LeO (spec_Join.f k a0) (spec_Join.f (k + 1) a0) := by
  intro a0 k
  have ih0 := spec_Join.mono_l k
  unfold spec_Join.f
  repeat' first
      | (with_reducible exact ih0 _ _ _)
      | (with_reducible exact LeO.refl _)
      | (with_reducible exact LeO.none _)
      | (with_reducible refine LeO.ite ?_ ?_)
      | (with_reducible refine LeO.bind ?_ (fun _ => ?_))
      | exact ih0 _ _ _
      | exact LeO.none _
      | refine LeO.ite ?_ ?_
      | refine LeO.bind ?_ (fun _ => ?_)
set_option maxHeartbeats 8000000 in
set_option maxRecDepth 100000 in
theorem spec_Join.calls (k : Nat) (A0 : Option Addr) (c0 : Nat) (l0 : List ByteArray) (r : ByteArray) (w : World) (hr0 : Kd.C Kd.string w A0 l0.length l0) (hc0 : l0.length ≤ c0) (h : spec_Join.f k l0 = some r) :
    Calls Tryd.prog 47 #[.slice A0 l0.length c0] w fun e w' => e = .returned (.string r) ∧ Drawn0 w w' := by
  have HR0 := Aside0.mk hr0
  have HC0 := Aside0.mk hc0
  clear hr0 hc0
  have H : (spec_Join.l0 k l0 (⟨#[]⟩ : ByteArray) 0) = some r := h
  clear h
  have H' := Aside0.mk H
  clear H
  go_enter Tryd.func47, Tryd.ntmps47
  go_wp2
  go_loopg [3, 4] k (fun kq v3 v4 w' => ∃ (x3_1 : ByteArray) (x4_1 : Int), v3 = .string x3_1 ∧ v4 = .int .i64 x4_1 ∧ Aside0 (spec_Join.l0 kq l0 x3_1 x4_1 = some r) ∧ Aside0 (kq ≤ k) ∧ Drawn0 w w')
  case atStart => exact ⟨((⟨#[]⟩ : ByteArray)), (0), (by first | rfl | (simp; done) | (simp [*]; done)), (by first | rfl | (simp; done) | (simp [*]; done)), H', ⟨Nat.le_refl _⟩, by repeat (first | exact Drawn0.refl _ | apply Drawn0.step)⟩
  case round =>
    clear H'
    obtain ⟨x3_1, x4_1, rfl, rfl, HA, HK1, ⟨m1, rfl⟩⟩ := hrel
    cases gk with
    | zero => exact absurd HA.out (by simp [spec_Join.l0])
    | succ k1 =>
      have H := HA.out
      clear HA
      simp only [spec_Join.l0] at H
      by_cases c2 : x4_1 < (l0.length : Int)
      · rw [if_pos c2] at H
        have c2b0 : decide (x4_1 < (l0.length : Int)) = true := decide_eq_true c2
        clear c2
        by_cases c3 : x4_1 > 0
        · rw [if_pos c3] at H
          have c3b0 : decide (0 < x4_1) = true := decide_eq_true c3
          clear c3
          by_cases c4 : x3_1.size + 1 ≤ 9223372036854775807
          · rw [if_pos c4] at H
            have c4b0 := eq_true c4
            have c4b1 : decide (x3_1.size + 1 ≤ 9223372036854775807) = true := decide_eq_true c4
            try have c4b2 : (9223372036854775807 < x3_1.size + 1) = False := eq_false (Nat.not_lt.2 c4)
            by_cases c5 : 0 ≤ x4_1
            · rw [if_pos c5] at H
              have c5b0 : decide (0 ≤ x4_1) = true := decide_eq_true c5
              clear c5
              by_cases c6 : (x3_1 ++ (⟨#[46]⟩ : ByteArray)).size + (rdOf ByteArray.empty l0 x4_1).size ≤ 9223372036854775807
              · rw [if_pos c6] at H
                have c6b0 := eq_true c6
                have c6b1 : decide ((x3_1 ++ (⟨#[46]⟩ : ByteArray)).size + (rdOf ByteArray.empty l0 x4_1).size ≤ 9223372036854775807) = true := decide_eq_true c6
                try have c6b2 : (9223372036854775807 < (x3_1 ++ (⟨#[46]⟩ : ByteArray)).size + (rdOf ByteArray.empty l0 x4_1).size) = False := eq_false (Nat.not_lt.2 c6)
                try (have c6b9 := c6b2; simp only [ByteArray.size_append, Road.size_lit, List.size_toArray, List.length_cons, List.length_nil, Nat.reduceAdd] at c6b9)
                have H' := Aside0.mk H
                clear H
                have p128 : 0 ≤ (x4_1 : Int) := of_decide_eq_true (by first | (with_reducible assumption) | assumption)
                have q128 : x4_1 < (l0.length : Int) := of_decide_eq_true (by first | (with_reducible assumption) | assumption)
                obtain ⟨ad128, e128, hx128_0⟩ := Kd.at_string HR0.out x4_1 p128 q128
                cases e128
                replace p128 := eq_true p128
                replace q128 := eq_true q128
                go_wp2
                go_roundg k1
                case measure => have := HK1.out; omega
                case rel => exact ⟨((x3_1 ++ (⟨#[46]⟩ : ByteArray)) ++ (rdOf ByteArray.empty l0 x4_1)), (wrap64 (x4_1 + 1)), (by first | rfl | (simp; done) | (simp [*]; done)), (by first | rfl | (simp; done) | (simp [*]; done)), H', ⟨by have := HK1.out; omega⟩, by repeat (first | exact Drawn0.refl _ | apply Drawn0.step)⟩
              · rw [if_neg c6] at H
                exact absurd H (by simp)
            · rw [if_neg c5] at H
              exact absurd H (by simp)
          · rw [if_neg c4] at H
            exact absurd H (by simp)
        · rw [if_neg c3] at H
          have c3b0 : decide (0 < x4_1) = false := decide_eq_false c3
          clear c3
          by_cases c7 : 0 ≤ x4_1
          · rw [if_pos c7] at H
            have c7b0 : decide (0 ≤ x4_1) = true := decide_eq_true c7
            clear c7
            by_cases c8 : x3_1.size + (rdOf ByteArray.empty l0 x4_1).size ≤ 9223372036854775807
            · rw [if_pos c8] at H
              have c8b0 := eq_true c8
              have c8b1 : decide (x3_1.size + (rdOf ByteArray.empty l0 x4_1).size ≤ 9223372036854775807) = true := decide_eq_true c8
              try have c8b2 : (9223372036854775807 < x3_1.size + (rdOf ByteArray.empty l0 x4_1).size) = False := eq_false (Nat.not_lt.2 c8)
              have H' := Aside0.mk H
              clear H
              have p129 : 0 ≤ (x4_1 : Int) := of_decide_eq_true (by first | (with_reducible assumption) | assumption)
              have q129 : x4_1 < (l0.length : Int) := of_decide_eq_true (by first | (with_reducible assumption) | assumption)
              obtain ⟨ad129, e129, hx129_0⟩ := Kd.at_string HR0.out x4_1 p129 q129
              cases e129
              replace p129 := eq_true p129
              replace q129 := eq_true q129
              go_wp2
              go_roundg k1
              case measure => have := HK1.out; omega
              case rel => exact ⟨(x3_1 ++ (rdOf ByteArray.empty l0 x4_1)), (wrap64 (x4_1 + 1)), (by first | rfl | (simp; done) | (simp [*]; done)), (by first | rfl | (simp; done) | (simp [*]; done)), H', ⟨by have := HK1.out; omega⟩, by repeat (first | exact Drawn0.refl _ | apply Drawn0.step)⟩
            · rw [if_neg c8] at H
              exact absurd H (by simp)
          · rw [if_neg c7] at H
            exact absurd H (by simp)
      · rw [if_neg c2] at H
        have c2b0 : decide (x4_1 < (l0.length : Int)) = false := decide_eq_false c2
        clear c2
        obtain rfl := Option.some.inj H
        go_wp2
        go_ret
        exact ⟨by first | rfl | (simp; done) | (simp [*]; done) | (simp; generalize ByteArray.toList _ = l_; cases l_ <;> rfl), by repeat (first | exact Drawn0.refl _ | apply Drawn0.step)⟩

end Go.Proofs.YtmfblbjklmgncaaDoor.PFnNeedsUp
