-- Written by hprint.py (this session's program, over the kit's printing program, with this session's own contracts in it). Not trusted: Lean checks it.
import Derived.Test.YtmfblbjklmgncaaDoorPFnFilterSubjectx0
import Derived.Test.YtmfblbjklmgncaaDoorPFnFilterSubjectx1
namespace Go.Proofs.YtmfblbjklmgncaaDoor.PFnFilterSubject
open Go.RowKit Go.Proofs.YtmfblbjklmgncaaDoorW.PrintWords Go.Proofs.YtmfblbjklmgncaaDoorW.PrintLast Go.Proofs.YtmfblbjklmgncaaDoorW.PrintMore
attribute [local go_sem] max2_int min2_int max_two min_two max_three min_three max_four min_four   -- for this text's walks alone
set_option linter.unusedVariables false
set_option linter.unusedSimpArgs false

/-! ### spec_Filtering: function 43 -/
def spec_Filtering.l0 : Nat → ByteArray → List ByteArray → Int → Option (Bool)
  | 0, _, _, _ => none
  | k + 1, x0, x3, x4 => if x4 < (x3.length : Int) then (if 0 ≤ x4 then (if (rdOf ByteArray.empty x3 x4).toList = ([] : List UInt8) then (spec_Filtering.l0 k x0 x3 (wrap64 (x4 + 1))) else (if (rdOf ByteArray.empty x3 x4).toList = ([43] : List UInt8) then (spec_Filtering.l0 k x0 x3 (wrap64 (x4 + 1))) else (if (rdOf ByteArray.empty x3 x4).toList = ([35] : List UInt8) then (if ((wrap64 (x4 + 1)) = (x3.length : Int)) then (spec_Filtering.l0 k x0 x3 (wrap64 (x4 + 1))) else ((spec_Topical.f k (rdOf ByteArray.empty x3 x4)).bind fun t122 => (if t122 = true then (spec_Filtering.l0 k x0 x3 (wrap64 (x4 + 1))) else (some false)))) else ((spec_Topical.f k (rdOf ByteArray.empty x3 x4)).bind fun t124 => (if t124 = true then (spec_Filtering.l0 k x0 x3 (wrap64 (x4 + 1))) else (some false)))))) else (none)) else (some (x0.toList != ([] : List UInt8)))
def spec_Filtering.f (k : Nat) (a0 : ByteArray) : Option (Bool) := (spec_levels.f k a0).bind fun t115 => (spec_Filtering.l0 k a0 t115 0)
theorem spec_Filtering.mono_l : ∀ k, (∀ y0 y1 y2, LeO (spec_Filtering.l0 k y0 y1 y2) (spec_Filtering.l0 (k + 1) y0 y1 y2))
  | 0 => fun _ _ _ r h => by simp [spec_Filtering.l0] at h
  | k + 1 => by
    have ih0 := spec_Filtering.mono_l k
    · intro y0 y1 y2
      unfold spec_Filtering.l0
      repeat' first
      | (with_reducible exact ih0 _ _ _)
      | (with_reducible exact spec_Topical.mono _ _)
      | (with_reducible exact spec_levels.mono _ _)
      | (with_reducible exact LeO.refl _)
      | (with_reducible exact LeO.none _)
      | (with_reducible refine LeO.ite ?_ ?_)
      | (with_reducible refine LeO.bind ?_ (fun _ => ?_))
      | exact ih0 _ _ _
      | exact spec_Topical.mono _ _
      | exact spec_levels.mono _ _
      | exact LeO.none _
      | refine LeO.ite ?_ ?_
      | refine LeO.bind ?_ (fun _ => ?_)
theorem spec_Filtering.mono : ∀ a0 k, LeO (spec_Filtering.f k a0) (spec_Filtering.f (k + 1) a0) := by
  intro a0 k
  have ih0 := spec_Filtering.mono_l k
  unfold spec_Filtering.f
  repeat' first
      | (with_reducible exact ih0 _ _ _)
      | (with_reducible exact spec_Topical.mono _ _)
      | (with_reducible exact spec_levels.mono _ _)
      | (with_reducible exact LeO.refl _)
      | (with_reducible exact LeO.none _)
      | (with_reducible refine LeO.ite ?_ ?_)
      | (with_reducible refine LeO.bind ?_ (fun _ => ?_))
      | exact ih0 _ _ _
      | exact spec_Topical.mono _ _
      | exact spec_levels.mono _ _
      | exact LeO.none _
      | refine LeO.ite ?_ ?_
      | refine LeO.bind ?_ (fun _ => ?_)
set_option maxHeartbeats 8000000 in
set_option maxRecDepth 100000 in
theorem spec_Filtering.calls (k : Nat) (a0 : ByteArray) (r : Bool) (w : World) (h : spec_Filtering.f k a0 = some r) :
    Calls Tryd.prog 43 #[.string a0] w fun e w' => e = .returned (.bool r) ∧ Below w.heap.size w w' := by
  have HB := Aside0.mk (Below.refl w.heap.size w)
  have H : ((spec_levels.f k a0).bind fun t115 => (spec_Filtering.l0 k a0 t115 0)) = some r := h
  clear h
  replace H := Option.bind_eq_some_iff.mp H
  obtain ⟨t115, A20, H⟩ := H
  replace H : (spec_Filtering.l0 k a0 t115 0) = some r := H
  have A2 := Aside0.mk A20
  clear A20
  have H' := Aside0.mk H
  clear H
  go_enter Tryd.func43, Tryd.ntmps43
  go_wp2_with (first | ((with_reducible refine gate_callee (f := 45) rfl ?_); refine goesL_ (some 6) rfl rfl Tryd.func45 (by kernel_rfl) rfl #[.string a0] rfl (by (try simp only [List.map_toArray, List.map_cons, List.map_nil]); first | done | rfl | (simp only [List.length_drop, List.length_take]; rfl)) ?_; (with_reducible refine (spec_levels.calls k a0 t115 _ A2.out).mono ?_); rintro e w3 ⟨v116, rfl, ho0, hb⟩; refine ⟨_, rfl, ?_⟩; have n0_ := Aside0.mk (Kd.R_lower ho0 (below_size (by repeat (first | (with_reducible first | exact HB.out | apply below_alloc | apply pw_below_drewN | apply below_drew1) | exact HB.out)))); have n1_ := Aside0.mk (below_step (by repeat (first | (with_reducible first | exact HB.out | apply below_alloc | apply pw_below_drewN | apply below_drew1) | exact HB.out)) hb); clear HB; have HO117 := n0_; have HB := n1_; clear n0_ n1_; (try clear hb); (try clear hb2); (try clear hk); (try clear hi); (try clear ho0)))
  go_loopg [4] k (fun kq v4 w' => ∃ (x4_1 : Int), v4 = .int .i64 x4_1 ∧ Aside0 (spec_Filtering.l0 kq a0 t115 x4_1 = some r) ∧ Aside0 (kq ≤ k) ∧ Aside0 (Kd.R Kd.string 9 w' w.heap.size (fun _ => True) v116 t115) ∧ Aside0 (Below w.heap.size w w'))
  case atStart => exact ⟨(0), (by first | rfl | (simp; done) | (simp [*]; done)), H', ⟨Nat.le_refl _⟩, ⟨by (with_reducible repeat (first | apply Kd.R_alloc | apply Kd.R_drewN | apply Kd.R_drew)); exact HO117.out⟩, ⟨by repeat (first | (with_reducible first | exact HB.out | apply below_alloc | apply pw_below_drewN | apply below_drew1) | exact HB.out)⟩⟩
  case round =>
    clear H'
    try clear p2
    obtain ⟨x4_1, rfl, HA, HK1, HO_3, HB⟩ := hrel
    cases gk with
    | zero => exact absurd HA.out (by simp [spec_Filtering.l0])
    | succ k1 =>
      have H := HA.out
      clear HA
      simp only [spec_Filtering.l0] at H
      by_cases c4 : x4_1 < (t115.length : Int)
      · rw [if_pos c4] at H
        have c4b0 : decide (x4_1 < (t115.length : Int)) = true := decide_eq_true c4
        clear c4
        by_cases c5 : 0 ≤ x4_1
        · rw [if_pos c5] at H
          have c5b0 : decide (0 ≤ x4_1) = true := decide_eq_true c5
          clear c5
          by_cases c6 : (rdOf ByteArray.empty t115 x4_1).toList = ([] : List UInt8)
          · rw [if_pos c6] at H
            have c6b0 : ((rdOf ByteArray.empty t115 x4_1).toList == ([] : List UInt8)) = true := beq_iff_eq.mpr c6
            have c6b1 : ((rdOf ByteArray.empty t115 x4_1).toList != ([] : List UInt8)) = false := bne_eq_false_iff_eq.mpr c6
            clear c6
            have H' := Aside0.mk H
            clear H
            obtain ⟨Ao7, co7, eo7⟩ := Kd.R_slice HO_3.out
            subst eo7
            have p118 : 0 ≤ (x4_1 : Int) := of_decide_eq_true (by first | (with_reducible assumption) | assumption)
            have q118 : x4_1 < (t115.length : Int) := of_decide_eq_true (by first | (with_reducible assumption) | assumption)
            obtain ⟨ad118, e118, hx118_0⟩ := Kd.at_string (Kd.R_reads' HO_3.out).2.2 x4_1 p118 q118
            cases e118
            replace p118 := eq_true p118
            replace q118 := eq_true q118
            go_wp2
            go_roundg k1
            case measure => have := HK1.out; omega
            case rel => exact ⟨(wrap64 (x4_1 + 1)), (by first | rfl | (simp; done) | (simp [*]; done)), H', ⟨by have := HK1.out; omega⟩, ⟨by (with_reducible repeat (first | apply Kd.R_alloc | apply Kd.R_drewN | apply Kd.R_drew)); exact HO_3.out⟩, ⟨by repeat (first | (with_reducible first | exact HB.out | apply below_alloc | apply pw_below_drewN | apply below_drew1) | exact HB.out)⟩⟩
          · rw [if_neg c6] at H
            have c6b0 : ((rdOf ByteArray.empty t115 x4_1).toList == ([] : List UInt8)) = false := beq_eq_false_iff_ne.mpr c6
            have c6b1 : ((rdOf ByteArray.empty t115 x4_1).toList != ([] : List UInt8)) = true := bne_iff_ne.mpr c6
            by_cases c8 : (rdOf ByteArray.empty t115 x4_1).toList = ([43] : List UInt8)
            · rw [if_pos c8] at H
              have c8b0 : ((rdOf ByteArray.empty t115 x4_1).toList == ([43] : List UInt8)) = true := beq_iff_eq.mpr c8
              have c8b1 : ((rdOf ByteArray.empty t115 x4_1).toList != ([43] : List UInt8)) = false := bne_eq_false_iff_eq.mpr c8
              clear c8
              have H' := Aside0.mk H
              clear H
              obtain ⟨Ao9, co9, eo9⟩ := Kd.R_slice HO_3.out
              subst eo9
              have p118 : 0 ≤ (x4_1 : Int) := of_decide_eq_true (by first | (with_reducible assumption) | assumption)
              have q118 : x4_1 < (t115.length : Int) := of_decide_eq_true (by first | (with_reducible assumption) | assumption)
              obtain ⟨ad118, e118, hx118_0⟩ := Kd.at_string (Kd.R_reads' HO_3.out).2.2 x4_1 p118 q118
              cases e118
              replace p118 := eq_true p118
              replace q118 := eq_true q118
              have p119 : 0 ≤ (x4_1 : Int) := of_decide_eq_true (by first | (with_reducible assumption) | assumption)
              have q119 : x4_1 < (t115.length : Int) := of_decide_eq_true (by first | (with_reducible assumption) | assumption)
              obtain ⟨ad119, e119, hx119_0⟩ := Kd.at_string (Kd.R_reads' HO_3.out).2.2 x4_1 p119 q119
              obtain rfl : ad118 = ad119 := (by injection e119)
              replace p119 := eq_true p119
              replace q119 := eq_true q119
              go_wp2
              go_roundg k1
              case measure => have := HK1.out; omega
              case rel => exact ⟨(wrap64 (x4_1 + 1)), (by first | rfl | (simp; done) | (simp [*]; done)), H', ⟨by have := HK1.out; omega⟩, ⟨by (with_reducible repeat (first | apply Kd.R_alloc | apply Kd.R_drewN | apply Kd.R_drew)); exact HO_3.out⟩, ⟨by repeat (first | (with_reducible first | exact HB.out | apply below_alloc | apply pw_below_drewN | apply below_drew1) | exact HB.out)⟩⟩
            · rw [if_neg c8] at H
              have c8b0 : ((rdOf ByteArray.empty t115 x4_1).toList == ([43] : List UInt8)) = false := beq_eq_false_iff_ne.mpr c8
              have c8b1 : ((rdOf ByteArray.empty t115 x4_1).toList != ([43] : List UInt8)) = true := bne_iff_ne.mpr c8
              by_cases c10 : (rdOf ByteArray.empty t115 x4_1).toList = ([35] : List UInt8)
              · rw [if_pos c10] at H
                have c10b0 : ((rdOf ByteArray.empty t115 x4_1).toList == ([35] : List UInt8)) = true := beq_iff_eq.mpr c10
                have c10b1 : ((rdOf ByteArray.empty t115 x4_1).toList != ([35] : List UInt8)) = false := bne_eq_false_iff_eq.mpr c10
                clear c10
                by_cases c11 : ((wrap64 (x4_1 + 1)) = (t115.length : Int))
                · rw [if_pos c11] at H
                  have c11b0 : ((wrap64 (x4_1 + 1)) == (t115.length : Int)) = true := beq_iff_eq.mpr c11
                  have c11b1 : ((wrap64 (x4_1 + 1)) != (t115.length : Int)) = false := bne_eq_false_iff_eq.mpr c11
                  clear c11
                  have H' := Aside0.mk H
                  clear H
                  obtain ⟨Ao12, co12, eo12⟩ := Kd.R_slice HO_3.out
                  subst eo12
                  have p118 : 0 ≤ (x4_1 : Int) := of_decide_eq_true (by first | (with_reducible assumption) | assumption)
                  have q118 : x4_1 < (t115.length : Int) := of_decide_eq_true (by first | (with_reducible assumption) | assumption)
                  obtain ⟨ad118, e118, hx118_0⟩ := Kd.at_string (Kd.R_reads' HO_3.out).2.2 x4_1 p118 q118
                  cases e118
                  replace p118 := eq_true p118
                  replace q118 := eq_true q118
                  have p119 : 0 ≤ (x4_1 : Int) := of_decide_eq_true (by first | (with_reducible assumption) | assumption)
                  have q119 : x4_1 < (t115.length : Int) := of_decide_eq_true (by first | (with_reducible assumption) | assumption)
                  obtain ⟨ad119, e119, hx119_0⟩ := Kd.at_string (Kd.R_reads' HO_3.out).2.2 x4_1 p119 q119
                  obtain rfl : ad118 = ad119 := (by injection e119)
                  replace p119 := eq_true p119
                  replace q119 := eq_true q119
                  have p120 : 0 ≤ (x4_1 : Int) := of_decide_eq_true (by first | (with_reducible assumption) | assumption)
                  have q120 : x4_1 < (t115.length : Int) := of_decide_eq_true (by first | (with_reducible assumption) | assumption)
                  obtain ⟨ad120, e120, hx120_0⟩ := Kd.at_string (Kd.R_reads' HO_3.out).2.2 x4_1 p120 q120
                  obtain rfl : ad118 = ad120 := (by injection e120)
                  replace p120 := eq_true p120
                  replace q120 := eq_true q120
                  go_wp2
                  go_roundg k1
                  case measure => have := HK1.out; omega
                  case rel => exact ⟨(wrap64 (x4_1 + 1)), (by first | rfl | (simp; done) | (simp [*]; done)), H', ⟨by have := HK1.out; omega⟩, ⟨by (with_reducible repeat (first | apply Kd.R_alloc | apply Kd.R_drewN | apply Kd.R_drew)); exact HO_3.out⟩, ⟨by repeat (first | (with_reducible first | exact HB.out | apply below_alloc | apply pw_below_drewN | apply below_drew1) | exact HB.out)⟩⟩
                · rw [if_neg c11] at H
                  have c11b0 : ((wrap64 (x4_1 + 1)) == (t115.length : Int)) = false := beq_eq_false_iff_ne.mpr c11
                  have c11b1 : ((wrap64 (x4_1 + 1)) != (t115.length : Int)) = true := bne_iff_ne.mpr c11
                  replace H := Option.bind_eq_some_iff.mp H
                  obtain ⟨t122, A130, H⟩ := H
                  replace H : (if t122 = true then (spec_Filtering.l0 k1 a0 t115 (wrap64 (x4_1 + 1))) else (some false)) = some r := H
                  have A13 := Aside0.mk A130
                  clear A130
                  by_cases c14 : t122 = true
                  · subst c14
                    have H1 : (spec_Filtering.l0 k1 a0 t115 (wrap64 (x4_1 + 1))) = some r := by rw [if_pos rfl] at H; exact H
                    clear H
                    have H := H1
                    clear H1
                    have H' := Aside0.mk H
                    clear H
                    obtain ⟨Ao15, co15, eo15⟩ := Kd.R_slice HO_3.out
                    subst eo15
                    have p118 : 0 ≤ (x4_1 : Int) := of_decide_eq_true (by first | (with_reducible assumption) | assumption)
                    have q118 : x4_1 < (t115.length : Int) := of_decide_eq_true (by first | (with_reducible assumption) | assumption)
                    obtain ⟨ad118, e118, hx118_0⟩ := Kd.at_string (Kd.R_reads' HO_3.out).2.2 x4_1 p118 q118
                    cases e118
                    replace p118 := eq_true p118
                    replace q118 := eq_true q118
                    have p119 : 0 ≤ (x4_1 : Int) := of_decide_eq_true (by first | (with_reducible assumption) | assumption)
                    have q119 : x4_1 < (t115.length : Int) := of_decide_eq_true (by first | (with_reducible assumption) | assumption)
                    obtain ⟨ad119, e119, hx119_0⟩ := Kd.at_string (Kd.R_reads' HO_3.out).2.2 x4_1 p119 q119
                    obtain rfl : ad118 = ad119 := (by injection e119)
                    replace p119 := eq_true p119
                    replace q119 := eq_true q119
                    have p120 : 0 ≤ (x4_1 : Int) := of_decide_eq_true (by first | (with_reducible assumption) | assumption)
                    have q120 : x4_1 < (t115.length : Int) := of_decide_eq_true (by first | (with_reducible assumption) | assumption)
                    obtain ⟨ad120, e120, hx120_0⟩ := Kd.at_string (Kd.R_reads' HO_3.out).2.2 x4_1 p120 q120
                    obtain rfl : ad118 = ad120 := (by injection e120)
                    replace p120 := eq_true p120
                    replace q120 := eq_true q120
                    have p121 : 0 ≤ (x4_1 : Int) := of_decide_eq_true (by first | (with_reducible assumption) | assumption)
                    have q121 : x4_1 < (t115.length : Int) := of_decide_eq_true (by first | (with_reducible assumption) | assumption)
                    obtain ⟨ad121, e121, hx121_0⟩ := Kd.at_string (Kd.R_reads' HO_3.out).2.2 x4_1 p121 q121
                    obtain rfl : ad118 = ad121 := (by injection e121)
                    replace p121 := eq_true p121
                    replace q121 := eq_true q121
                    go_wp2_with (first | (go_at_call 41; (with_reducible refine (spec_Topical.calls k1 (rdOf ByteArray.empty t115 x4_1) true _ A13.out).mono ?_); rintro e w' ⟨rfl, ⟨nd, rfl⟩⟩))
                    go_roundg k1
                    case measure => have := HK1.out; omega
                    case rel => exact ⟨(wrap64 (x4_1 + 1)), (by first | rfl | (simp; done) | (simp [*]; done)), H', ⟨by have := HK1.out; omega⟩, ⟨by (with_reducible repeat (first | apply Kd.R_alloc | apply Kd.R_drewN | apply Kd.R_drew)); exact HO_3.out⟩, ⟨by repeat (first | (with_reducible first | exact HB.out | apply below_alloc | apply pw_below_drewN | apply below_drew1) | exact HB.out)⟩⟩
                  · replace c14 := Bool.eq_false_iff.mpr c14
                    subst c14
                    have H1 : (some false) = some r := by rw [if_neg (show ¬ (false = true) by decide)] at H; exact H
                    clear H
                    have H := H1
                    clear H1
                    obtain rfl := Option.some.inj H
                    obtain ⟨Ao16, co16, eo16⟩ := Kd.R_slice HO_3.out
                    subst eo16
                    have p118 : 0 ≤ (x4_1 : Int) := of_decide_eq_true (by first | (with_reducible assumption) | assumption)
                    have q118 : x4_1 < (t115.length : Int) := of_decide_eq_true (by first | (with_reducible assumption) | assumption)
                    obtain ⟨ad118, e118, hx118_0⟩ := Kd.at_string (Kd.R_reads' HO_3.out).2.2 x4_1 p118 q118
                    cases e118
                    replace p118 := eq_true p118
                    replace q118 := eq_true q118
                    have p119 : 0 ≤ (x4_1 : Int) := of_decide_eq_true (by first | (with_reducible assumption) | assumption)
                    have q119 : x4_1 < (t115.length : Int) := of_decide_eq_true (by first | (with_reducible assumption) | assumption)
                    obtain ⟨ad119, e119, hx119_0⟩ := Kd.at_string (Kd.R_reads' HO_3.out).2.2 x4_1 p119 q119
                    obtain rfl : ad118 = ad119 := (by injection e119)
                    replace p119 := eq_true p119
                    replace q119 := eq_true q119
                    have p120 : 0 ≤ (x4_1 : Int) := of_decide_eq_true (by first | (with_reducible assumption) | assumption)
                    have q120 : x4_1 < (t115.length : Int) := of_decide_eq_true (by first | (with_reducible assumption) | assumption)
                    obtain ⟨ad120, e120, hx120_0⟩ := Kd.at_string (Kd.R_reads' HO_3.out).2.2 x4_1 p120 q120
                    obtain rfl : ad118 = ad120 := (by injection e120)
                    replace p120 := eq_true p120
                    replace q120 := eq_true q120
                    have p121 : 0 ≤ (x4_1 : Int) := of_decide_eq_true (by first | (with_reducible assumption) | assumption)
                    have q121 : x4_1 < (t115.length : Int) := of_decide_eq_true (by first | (with_reducible assumption) | assumption)
                    obtain ⟨ad121, e121, hx121_0⟩ := Kd.at_string (Kd.R_reads' HO_3.out).2.2 x4_1 p121 q121
                    obtain rfl : ad118 = ad121 := (by injection e121)
                    replace p121 := eq_true p121
                    replace q121 := eq_true q121
                    go_wp2_with (first | (go_at_call 41; (with_reducible refine (spec_Topical.calls k1 (rdOf ByteArray.empty t115 x4_1) false _ A13.out).mono ?_); rintro e w' ⟨rfl, ⟨nd, rfl⟩⟩))
                    go_ret
                    exact ⟨by first | rfl | (simp [errW_none, errW_some] <;> rfl) | (simp [*, errW_none, errW_some] <;> rfl) | (simp [errW_none, errW_some]; generalize ByteArray.toList _ = l_; cases l_ <;> rfl), by repeat (first | (with_reducible first | exact HB.out | apply below_alloc | apply pw_below_drewN | apply below_drew1) | exact HB.out)⟩
              · rw [if_neg c10] at H
                have c10b0 : ((rdOf ByteArray.empty t115 x4_1).toList == ([35] : List UInt8)) = false := beq_eq_false_iff_ne.mpr c10
                have c10b1 : ((rdOf ByteArray.empty t115 x4_1).toList != ([35] : List UInt8)) = true := bne_iff_ne.mpr c10
                replace H := Option.bind_eq_some_iff.mp H
                obtain ⟨t124, A170, H⟩ := H
                replace H : (if t124 = true then (spec_Filtering.l0 k1 a0 t115 (wrap64 (x4_1 + 1))) else (some false)) = some r := H
                have A17 := Aside0.mk A170
                clear A170
                by_cases c18 : t124 = true
                · subst c18
                  have H1 : (spec_Filtering.l0 k1 a0 t115 (wrap64 (x4_1 + 1))) = some r := by rw [if_pos rfl] at H; exact H
                  clear H
                  have H := H1
                  clear H1
                  have H' := Aside0.mk H
                  clear H
                  obtain ⟨Ao19, co19, eo19⟩ := Kd.R_slice HO_3.out
                  subst eo19
                  have p118 : 0 ≤ (x4_1 : Int) := of_decide_eq_true (by first | (with_reducible assumption) | assumption)
                  have q118 : x4_1 < (t115.length : Int) := of_decide_eq_true (by first | (with_reducible assumption) | assumption)
                  obtain ⟨ad118, e118, hx118_0⟩ := Kd.at_string (Kd.R_reads' HO_3.out).2.2 x4_1 p118 q118
                  cases e118
                  replace p118 := eq_true p118
                  replace q118 := eq_true q118
                  have p119 : 0 ≤ (x4_1 : Int) := of_decide_eq_true (by first | (with_reducible assumption) | assumption)
                  have q119 : x4_1 < (t115.length : Int) := of_decide_eq_true (by first | (with_reducible assumption) | assumption)
                  obtain ⟨ad119, e119, hx119_0⟩ := Kd.at_string (Kd.R_reads' HO_3.out).2.2 x4_1 p119 q119
                  obtain rfl : ad118 = ad119 := (by injection e119)
                  replace p119 := eq_true p119
                  replace q119 := eq_true q119
                  have p120 : 0 ≤ (x4_1 : Int) := of_decide_eq_true (by first | (with_reducible assumption) | assumption)
                  have q120 : x4_1 < (t115.length : Int) := of_decide_eq_true (by first | (with_reducible assumption) | assumption)
                  obtain ⟨ad120, e120, hx120_0⟩ := Kd.at_string (Kd.R_reads' HO_3.out).2.2 x4_1 p120 q120
                  obtain rfl : ad118 = ad120 := (by injection e120)
                  replace p120 := eq_true p120
                  replace q120 := eq_true q120
                  have p123 : 0 ≤ (x4_1 : Int) := of_decide_eq_true (by first | (with_reducible assumption) | assumption)
                  have q123 : x4_1 < (t115.length : Int) := of_decide_eq_true (by first | (with_reducible assumption) | assumption)
                  obtain ⟨ad123, e123, hx123_0⟩ := Kd.at_string (Kd.R_reads' HO_3.out).2.2 x4_1 p123 q123
                  obtain rfl : ad118 = ad123 := (by injection e123)
                  replace p123 := eq_true p123
                  replace q123 := eq_true q123
                  go_wp2_with (first | (go_at_call 41; (with_reducible refine (spec_Topical.calls k1 (rdOf ByteArray.empty t115 x4_1) true _ A17.out).mono ?_); rintro e w' ⟨rfl, ⟨nd, rfl⟩⟩))
                  go_roundg k1
                  case measure => have := HK1.out; omega
                  case rel => exact ⟨(wrap64 (x4_1 + 1)), (by first | rfl | (simp; done) | (simp [*]; done)), H', ⟨by have := HK1.out; omega⟩, ⟨by (with_reducible repeat (first | apply Kd.R_alloc | apply Kd.R_drewN | apply Kd.R_drew)); exact HO_3.out⟩, ⟨by repeat (first | (with_reducible first | exact HB.out | apply below_alloc | apply pw_below_drewN | apply below_drew1) | exact HB.out)⟩⟩
                · replace c18 := Bool.eq_false_iff.mpr c18
                  subst c18
                  have H1 : (some false) = some r := by rw [if_neg (show ¬ (false = true) by decide)] at H; exact H
                  clear H
                  have H := H1
                  clear H1
                  obtain rfl := Option.some.inj H
                  obtain ⟨Ao20, co20, eo20⟩ := Kd.R_slice HO_3.out
                  subst eo20
                  have p118 : 0 ≤ (x4_1 : Int) := of_decide_eq_true (by first | (with_reducible assumption) | assumption)
                  have q118 : x4_1 < (t115.length : Int) := of_decide_eq_true (by first | (with_reducible assumption) | assumption)
                  obtain ⟨ad118, e118, hx118_0⟩ := Kd.at_string (Kd.R_reads' HO_3.out).2.2 x4_1 p118 q118
                  cases e118
                  replace p118 := eq_true p118
                  replace q118 := eq_true q118
                  have p119 : 0 ≤ (x4_1 : Int) := of_decide_eq_true (by first | (with_reducible assumption) | assumption)
                  have q119 : x4_1 < (t115.length : Int) := of_decide_eq_true (by first | (with_reducible assumption) | assumption)
                  obtain ⟨ad119, e119, hx119_0⟩ := Kd.at_string (Kd.R_reads' HO_3.out).2.2 x4_1 p119 q119
                  obtain rfl : ad118 = ad119 := (by injection e119)
                  replace p119 := eq_true p119
                  replace q119 := eq_true q119
                  have p120 : 0 ≤ (x4_1 : Int) := of_decide_eq_true (by first | (with_reducible assumption) | assumption)
                  have q120 : x4_1 < (t115.length : Int) := of_decide_eq_true (by first | (with_reducible assumption) | assumption)
                  obtain ⟨ad120, e120, hx120_0⟩ := Kd.at_string (Kd.R_reads' HO_3.out).2.2 x4_1 p120 q120
                  obtain rfl : ad118 = ad120 := (by injection e120)
                  replace p120 := eq_true p120
                  replace q120 := eq_true q120
                  have p123 : 0 ≤ (x4_1 : Int) := of_decide_eq_true (by first | (with_reducible assumption) | assumption)
                  have q123 : x4_1 < (t115.length : Int) := of_decide_eq_true (by first | (with_reducible assumption) | assumption)
                  obtain ⟨ad123, e123, hx123_0⟩ := Kd.at_string (Kd.R_reads' HO_3.out).2.2 x4_1 p123 q123
                  obtain rfl : ad118 = ad123 := (by injection e123)
                  replace p123 := eq_true p123
                  replace q123 := eq_true q123
                  go_wp2_with (first | (go_at_call 41; (with_reducible refine (spec_Topical.calls k1 (rdOf ByteArray.empty t115 x4_1) false _ A17.out).mono ?_); rintro e w' ⟨rfl, ⟨nd, rfl⟩⟩))
                  go_ret
                  exact ⟨by first | rfl | (simp [errW_none, errW_some] <;> rfl) | (simp [*, errW_none, errW_some] <;> rfl) | (simp [errW_none, errW_some]; generalize ByteArray.toList _ = l_; cases l_ <;> rfl), by repeat (first | (with_reducible first | exact HB.out | apply below_alloc | apply pw_below_drewN | apply below_drew1) | exact HB.out)⟩
        · rw [if_neg c5] at H
          exact absurd H (by simp)
      · rw [if_neg c4] at H
        have c4b0 : decide (x4_1 < (t115.length : Int)) = false := decide_eq_false c4
        clear c4
        obtain rfl := Option.some.inj H
        obtain ⟨Ao21, co21, eo21⟩ := Kd.R_slice HO_3.out
        subst eo21
        go_wp2
        go_ret
        exact ⟨by first | rfl | (simp [errW_none, errW_some] <;> rfl) | (simp [*, errW_none, errW_some] <;> rfl) | (simp [errW_none, errW_some]; generalize ByteArray.toList _ = l_; cases l_ <;> rfl), by repeat (first | (with_reducible first | exact HB.out | apply below_alloc | apply pw_below_drewN | apply below_drew1) | exact HB.out)⟩

/-! ### laws_filter: function 24 -/
def laws_filter.f (k : Nat) (a0 : ByteArray) : Option (Bool) := if (a0.size : Int) ≤ 100 then ((spec_Filtering.f k a0).bind fun t125 => (some t125)) else (some false)
theorem laws_filter.mono : ∀ a0 k, LeO (laws_filter.f k a0) (laws_filter.f (k + 1) a0) := by
  intro a0 k
  unfold laws_filter.f
  repeat' first
      | (with_reducible exact spec_Filtering.mono _ _)
      | (with_reducible exact LeO.refl _)
      | (with_reducible exact LeO.none _)
      | (with_reducible refine LeO.ite ?_ ?_)
      | (with_reducible refine LeO.bind ?_ (fun _ => ?_))
      | exact spec_Filtering.mono _ _
      | exact LeO.none _
      | refine LeO.ite ?_ ?_
      | refine LeO.bind ?_ (fun _ => ?_)
set_option maxHeartbeats 8000000 in
set_option maxRecDepth 100000 in
theorem laws_filter.calls (k : Nat) (a0 : ByteArray) (r : Bool) (w : World) (h : laws_filter.f k a0 = some r) :
    Calls Tryd.prog 24 #[.string a0] w fun e w' => e = .returned (.bool r) ∧ Below w.heap.size w w' := by
  have HB := Aside0.mk (Below.refl w.heap.size w)
  have H : (if (a0.size : Int) ≤ 100 then ((spec_Filtering.f k a0).bind fun t125 => (some t125)) else (some false)) = some r := h
  clear h
  by_cases c2 : (a0.size : Int) ≤ 100
  · rw [if_pos c2] at H
    have c2b0 : decide ((a0.size : Int) ≤ 100) = true := decide_eq_true c2
    have c2b1 : decide (a0.size ≤ 100) = true := decide_eq_true (by omega)
    clear c2
    replace H := Option.bind_eq_some_iff.mp H
    obtain ⟨t125, A30, H⟩ := H
    replace H : (some t125) = some r := H
    have A3 := Aside0.mk A30
    clear A30
    obtain rfl := Option.some.inj H
    go_enter Tryd.func24, Tryd.ntmps24
    go_wp2_with (first | (go_at_call 43; (with_reducible refine (spec_Filtering.calls k a0 t125 _ A3.out).mono ?_); rintro e w4 ⟨rfl, hb⟩; have n0_ := Aside0.mk (below_step (by repeat (first | (with_reducible first | exact HB.out | apply below_alloc | apply pw_below_drewN | apply below_drew1) | exact HB.out)) hb); clear HB; have HB := n0_; clear n0_; (try clear hb); (try clear hb2); (try clear hk); (try clear hi)))
    go_ret
    exact ⟨by first | rfl | (simp [errW_none, errW_some] <;> rfl) | (simp [*, errW_none, errW_some] <;> rfl) | (simp [errW_none, errW_some]; generalize ByteArray.toList _ = l_; cases l_ <;> rfl), by repeat (first | (with_reducible first | exact HB.out | apply below_alloc | apply pw_below_drewN | apply below_drew1) | exact HB.out)⟩
  · rw [if_neg c2] at H
    have c2b0 : decide ((a0.size : Int) ≤ 100) = false := decide_eq_false c2
    have c2b1 : decide (a0.size ≤ 100) = false := decide_eq_false (by omega)
    clear c2
    obtain rfl := Option.some.inj H
    go_enter Tryd.func24, Tryd.ntmps24
    go_wp2
    go_ret
    exact ⟨by first | rfl | (simp [errW_none, errW_some] <;> rfl) | (simp [*, errW_none, errW_some] <;> rfl) | (simp [errW_none, errW_some]; generalize ByteArray.toList _ = l_; cases l_ <;> rfl), by repeat (first | (with_reducible first | exact HB.out | apply below_alloc | apply pw_below_drewN | apply below_drew1) | exact HB.out)⟩

/-! ### spec_level: function 46 -/
def spec_level.l0 : Nat → ByteArray → ByteArray → Int → Option (ByteArray)
  | 0, _, _, _ => none
  | k + 1, x0, x3, x4 => if x4 < (x0.size : Int) then (if 0 ≤ x4 then (if (bt x0 x4) = 46 then (if x3.size + 2 ≤ 9223372036854775807 then (spec_level.l0 k x0 (x3 ++ (⟨#[47, 47]⟩ : ByteArray)) (wrap64 (x4 + 1))) else (none)) else (if x4 ≤ (wrap64 (x4 + 1)) then (if (wrap64 (x4 + 1)) ≤ (x0.size : Int) then (if x3.size + (x0.extract (x4 : Int).toNat ((wrap64 (x4 + 1)) : Int).toNat).size ≤ 9223372036854775807 then (spec_level.l0 k x0 (x3 ++ (x0.extract (x4 : Int).toNat ((wrap64 (x4 + 1)) : Int).toNat)) (wrap64 (x4 + 1))) else (none)) else (none)) else (none))) else (none)) else (some x3)
def spec_level.f (k : Nat) (a0 : ByteArray) : Option (ByteArray) := if a0.toList = ([] : List UInt8) then (some (⟨#[47]⟩ : ByteArray)) else (spec_level.l0 k a0 (⟨#[]⟩ : ByteArray) 0)
theorem spec_level.mono_l : ∀ k, (∀ y0 y1 y2, LeO (spec_level.l0 k y0 y1 y2) (spec_level.l0 (k + 1) y0 y1 y2))
  | 0 => fun _ _ _ r h => by simp [spec_level.l0] at h
  | k + 1 => by
    have ih0 := spec_level.mono_l k
    · intro y0 y1 y2
      unfold spec_level.l0
      repeat' first
      | (with_reducible exact ih0 _ _ _)
      | (with_reducible exact LeO.refl _)
      | (with_reducible exact LeO.none _)
      | (with_reducible refine LeO.ite ?_ ?_)
      | (with_reducible refine LeO.bind ?_ (fun _ => ?_))
      | exact ih0 _ _ _
      | exact LeO.none _
      | refine LeO.ite ?_ ?_
      | refine LeO.bind ?_ (fun _ => ?_)
theorem spec_level.mono : ∀ a0 k, LeO (spec_level.f k a0) (spec_level.f (k + 1) a0) := by
  intro a0 k
  have ih0 := spec_level.mono_l k
  unfold spec_level.f
  repeat' first
      | (with_reducible exact ih0 _ _ _)
      | (with_reducible exact LeO.refl _)
      | (with_reducible exact LeO.none _)
      | (with_reducible refine LeO.ite ?_ ?_)
      | (with_reducible refine LeO.bind ?_ (fun _ => ?_))
      | exact ih0 _ _ _
      | exact LeO.none _
      | refine LeO.ite ?_ ?_
      | refine LeO.bind ?_ (fun _ => ?_)
set_option maxHeartbeats 8000000 in
set_option maxRecDepth 100000 in
theorem spec_level.calls (k : Nat) (a0 : ByteArray) (r : ByteArray) (w : World) (h : spec_level.f k a0 = some r) :
    Calls Tryd.prog 46 #[.string a0] w fun e w' => e = .returned (.string r) ∧ Drawn0 w w' := by
  have H : (if a0.toList = ([] : List UInt8) then (some (⟨#[47]⟩ : ByteArray)) else (spec_level.l0 k a0 (⟨#[]⟩ : ByteArray) 0)) = some r := h
  clear h
  by_cases c2 : a0.toList = ([] : List UInt8)
  · rw [if_pos c2] at H
    have c2b0 : (a0.toList == ([] : List UInt8)) = true := beq_iff_eq.mpr c2
    have c2b1 : (a0.toList != ([] : List UInt8)) = false := bne_eq_false_iff_eq.mpr c2
    clear c2
    obtain rfl := Option.some.inj H
    go_enter Tryd.func46, Tryd.ntmps46
    go_wp2
    go_ret
    exact ⟨by first | rfl | (simp; done) | (simp [*]; done) | (simp; generalize ByteArray.toList _ = l_; cases l_ <;> rfl), by repeat (first | exact Drawn0.refl _ | apply Drawn0.step)⟩
  · rw [if_neg c2] at H
    have c2b0 : (a0.toList == ([] : List UInt8)) = false := beq_eq_false_iff_ne.mpr c2
    have c2b1 : (a0.toList != ([] : List UInt8)) = true := bne_iff_ne.mpr c2
    have H' := Aside0.mk H
    clear H
    go_enter Tryd.func46, Tryd.ntmps46
    go_wp2
    go_loopg [3, 4] k (fun kq v3 v4 w' => ∃ (x3_1 : ByteArray) (x4_1 : Int), v3 = .string x3_1 ∧ v4 = .int .i64 x4_1 ∧ Aside0 (spec_level.l0 kq a0 x3_1 x4_1 = some r) ∧ Aside0 (kq ≤ k) ∧ Drawn0 w w')
    case atStart => exact ⟨((⟨#[]⟩ : ByteArray)), (0), (by first | rfl | (simp; done) | (simp [*]; done)), (by first | rfl | (simp; done) | (simp [*]; done)), H', ⟨Nat.le_refl _⟩, by repeat (first | exact Drawn0.refl _ | apply Drawn0.step)⟩
    case round =>
      clear H'
      try clear c2
      try clear c2b0
      try clear c2b1
      try clear p2
      obtain ⟨x3_1, x4_1, rfl, rfl, HA, HK1, ⟨m1, rfl⟩⟩ := hrel
      cases gk with
      | zero => exact absurd HA.out (by simp [spec_level.l0])
      | succ k1 =>
        have H := HA.out
        clear HA
        simp only [spec_level.l0] at H
        by_cases c3 : x4_1 < (a0.size : Int)
        · rw [if_pos c3] at H
          have c3b0 : decide (x4_1 < (a0.size : Int)) = true := decide_eq_true c3
          clear c3
          by_cases c4 : 0 ≤ x4_1
          · rw [if_pos c4] at H
            have c4b0 : decide (0 ≤ x4_1) = true := decide_eq_true c4
            clear c4
            by_cases c6 : (bt a0 x4_1) = 46
            · rw [if_pos c6] at H
              have c6b0 : ((bt a0 x4_1) == 46) = true := beq_iff_eq.mpr c6
              have c6b1 : ((bt a0 x4_1) != 46) = false := bne_eq_false_iff_eq.mpr c6
              clear c6
              by_cases c7 : x3_1.size + 2 ≤ 9223372036854775807
              · rw [if_pos c7] at H
                have c7b0 := eq_true c7
                have c7b1 : decide (x3_1.size + 2 ≤ 9223372036854775807) = true := decide_eq_true c7
                try have c7b2 : (9223372036854775807 < x3_1.size + 2) = False := eq_false (Nat.not_lt.2 c7)
                have H' := Aside0.mk H
                clear H
                have p5 : 0 ≤ (x4_1 : Int) := of_decide_eq_true (by first | (with_reducible assumption) | assumption)
                have q5 : x4_1 < (a0.size : Int) := of_decide_eq_true (by first | (with_reducible assumption) | assumption)
                have hx5 := bt_at a0 x4_1
                replace p5 := eq_true p5
                replace q5 := eq_true q5
                go_wp2
                go_roundg k1
                case measure => have := HK1.out; omega
                case rel => exact ⟨(x3_1 ++ (⟨#[47, 47]⟩ : ByteArray)), (wrap64 (x4_1 + 1)), (by first | rfl | (simp; done) | (simp [*]; done)), (by first | rfl | (simp; done) | (simp [*]; done)), H', ⟨by have := HK1.out; omega⟩, by repeat (first | exact Drawn0.refl _ | apply Drawn0.step)⟩
              · rw [if_neg c7] at H
                exact absurd H (by simp)
            · rw [if_neg c6] at H
              have c6b0 : ((bt a0 x4_1) == 46) = false := beq_eq_false_iff_ne.mpr c6
              have c6b1 : ((bt a0 x4_1) != 46) = true := bne_iff_ne.mpr c6
              have c8b0 := eq_true (of_decide_eq_true (by first | (with_reducible assumption) | assumption) : 0 ≤ x4_1)
              by_cases c9 : x4_1 ≤ (wrap64 (x4_1 + 1))
              · rw [if_pos c9] at H
                have c9b0 := eq_true c9
                have c9b1 : decide (x4_1 ≤ (wrap64 (x4_1 + 1))) = true := decide_eq_true c9
                by_cases c10 : (wrap64 (x4_1 + 1)) ≤ (a0.size : Int)
                · rw [if_pos c10] at H
                  have c10b0 := eq_true c10
                  have c10b1 : decide ((wrap64 (x4_1 + 1)) ≤ (a0.size : Int)) = true := decide_eq_true c10
                  by_cases c11 : x3_1.size + (a0.extract (x4_1 : Int).toNat ((wrap64 (x4_1 + 1)) : Int).toNat).size ≤ 9223372036854775807
                  · rw [if_pos c11] at H
                    have c11b0 := eq_true c11
                    have c11b1 : decide (x3_1.size + (a0.extract (x4_1 : Int).toNat ((wrap64 (x4_1 + 1)) : Int).toNat).size ≤ 9223372036854775807) = true := decide_eq_true c11
                    try have c11b2 : (9223372036854775807 < x3_1.size + (a0.extract (x4_1 : Int).toNat ((wrap64 (x4_1 + 1)) : Int).toNat).size) = False := eq_false (Nat.not_lt.2 c11)
                    have H' := Aside0.mk H
                    clear H
                    have p5 : 0 ≤ (x4_1 : Int) := of_decide_eq_true (by first | (with_reducible assumption) | assumption)
                    have q5 : x4_1 < (a0.size : Int) := of_decide_eq_true (by first | (with_reducible assumption) | assumption)
                    have hx5 := bt_at a0 x4_1
                    replace p5 := eq_true p5
                    replace q5 := eq_true q5
                    go_wp2
                    go_roundg k1
                    case measure => have := HK1.out; omega
                    case rel => exact ⟨(x3_1 ++ (a0.extract (x4_1 : Int).toNat ((wrap64 (x4_1 + 1)) : Int).toNat)), (wrap64 (x4_1 + 1)), (by first | rfl | (simp; done) | (simp [*]; done)), (by first | rfl | (simp; done) | (simp [*]; done)), H', ⟨by have := HK1.out; omega⟩, by repeat (first | exact Drawn0.refl _ | apply Drawn0.step)⟩
                  · rw [if_neg c11] at H
                    exact absurd H (by simp)
                · rw [if_neg c10] at H
                  exact absurd H (by simp)
              · rw [if_neg c9] at H
                exact absurd H (by simp)
          · rw [if_neg c4] at H
            exact absurd H (by simp)
        · rw [if_neg c3] at H
          have c3b0 : decide (x4_1 < (a0.size : Int)) = false := decide_eq_false c3
          clear c3
          obtain rfl := Option.some.inj H
          go_wp2
          go_ret
          exact ⟨by first | rfl | (simp; done) | (simp [*]; done) | (simp; generalize ByteArray.toList _ = l_; cases l_ <;> rfl), by repeat (first | exact Drawn0.refl _ | apply Drawn0.step)⟩

/-! ### spec_Join: function 47 -/
def spec_Join.l0 : Nat → List ByteArray → ByteArray → Int → Option (ByteArray)
  | 0, _, _, _ => none
  | k + 1, x0, x3, x4 => if x4 < (x0.length : Int) then (if x4 > 0 then (if x3.size + 1 ≤ 9223372036854775807 then (if 0 ≤ x4 then (if (x3 ++ (⟨#[46]⟩ : ByteArray)).size + (rdOf ByteArray.empty x0 x4).size ≤ 9223372036854775807 then (spec_Join.l0 k x0 ((x3 ++ (⟨#[46]⟩ : ByteArray)) ++ (rdOf ByteArray.empty x0 x4)) (wrap64 (x4 + 1))) else (none)) else (none)) else (none)) else (if 0 ≤ x4 then (if x3.size + (rdOf ByteArray.empty x0 x4).size ≤ 9223372036854775807 then (spec_Join.l0 k x0 (x3 ++ (rdOf ByteArray.empty x0 x4)) (wrap64 (x4 + 1))) else (none)) else (none))) else (some x3)
def spec_Join.f (k : Nat) (l0 : List ByteArray) : Option (ByteArray) := spec_Join.l0 k l0 (⟨#[]⟩ : ByteArray) 0
theorem spec_Join.mono_l : ∀ k, (∀ y0 y1 y2, LeO (spec_Join.l0 k y0 y1 y2) (spec_Join.l0 (k + 1) y0 y1 y2))
  | 0 => fun _ _ _ r h => by simp [spec_Join.l0] at h
  | k + 1 => by
    have ih0 := spec_Join.mono_l k
    · intro y0 y1 y2
      unfold spec_Join.l0
      repeat' first
      | (with_reducible exact ih0 _ _ _)
      | (with_reducible exact LeO.refl _)
      | (with_reducible exact LeO.none _)
      | (with_reducible refine LeO.ite ?_ ?_)
      | (with_reducible refine LeO.bind ?_ (fun _ => ?_))
      | exact ih0 _ _ _
      | exact LeO.none _
      | refine LeO.ite ?_ ?_
      | refine LeO.bind ?_ (fun _ => ?_)
theorem spec_Join.mono : ∀ a0 k, LeO (spec_Join.f k a0) (spec_Join.f (k + 1) a0) := by
  intro a0 k
  have ih0 := spec_Join.mono_l k
  unfold spec_Join.f
  repeat' first
      | (with_reducible exact ih0 _ _ _)
      | (with_reducible exact LeO.refl _)
      | (with_reducible exact LeO.none _)
      | (with_reducible refine LeO.ite ?_ ?_)
      | (with_reducible refine LeO.bind ?_ (fun _ => ?_))
      | exact ih0 _ _ _
      | exact LeO.none _
      | refine LeO.ite ?_ ?_
      | refine LeO.bind ?_ (fun _ => ?_)
set_option maxHeartbeats 8000000 in
set_option maxRecDepth 100000 in
theorem spec_Join.calls (k : Nat) (A0 : Option Addr) (c0 : Nat) (l0 : List ByteArray) (r : ByteArray) (w : World) (hr0 : Kd.C Kd.string w A0 l0.length l0) (hc0 : l0.length ≤ c0) (h : spec_Join.f k l0 = some r) :
    Calls Tryd.prog 47 #[.slice A0 l0.length c0] w fun e w' => e = .returned (.string r) ∧ Drawn0 w w' := by
  have HR0 := Aside0.mk hr0
  have HC0 := Aside0.mk hc0
  clear hr0 hc0
  have H : (spec_Join.l0 k l0 (⟨#[]⟩ : ByteArray) 0) = some r := h
  clear h
  have H' := Aside0.mk H
  clear H
  go_enter Tryd.func47, Tryd.ntmps47
  go_wp2
  go_loopg [3, 4] k (fun kq v3 v4 w' => ∃ (x3_1 : ByteArray) (x4_1 : Int), v3 = .string x3_1 ∧ v4 = .int .i64 x4_1 ∧ Aside0 (spec_Join.l0 kq l0 x3_1 x4_1 = some r) ∧ Aside0 (kq ≤ k) ∧ Drawn0 w w')
  case atStart => exact ⟨((⟨#[]⟩ : ByteArray)), (0), (by first | rfl | (simp; done) | (simp [*]; done)), (by first | rfl | (simp; done) | (simp [*]; done)), H', ⟨Nat.le_refl _⟩, by repeat (first | exact Drawn0.refl _ | apply Drawn0.step)⟩
  case round =>
    clear H'
    obtain ⟨x3_1, x4_1, rfl, rfl, HA, HK1, ⟨m1, rfl⟩⟩ := hrel
    cases gk with
    | zero => exact absurd HA.out (by simp [spec_Join.l0])
    | succ k1 =>
      have H := HA.out
      clear HA
      simp only [spec_Join.l0] at H
      by_cases c2 : x4_1 < (l0.length : Int)
      · rw [if_pos c2] at H
        have c2b0 : decide (x4_1 < (l0.length : Int)) = true := decide_eq_true c2
        clear c2
        by_cases c3 : x4_1 > 0
        · rw [if_pos c3] at H
          have c3b0 : decide (0 < x4_1) = true := decide_eq_true c3
          clear c3
          by_cases c4 : x3_1.size + 1 ≤ 9223372036854775807
          · rw [if_pos c4] at H
            have c4b0 := eq_true c4
            have c4b1 : decide (x3_1.size + 1 ≤ 9223372036854775807) = true := decide_eq_true c4
            try have c4b2 : (9223372036854775807 < x3_1.size + 1) = False := eq_false (Nat.not_lt.2 c4)
            by_cases c5 : 0 ≤ x4_1
            · rw [if_pos c5] at H
              have c5b0 : decide (0 ≤ x4_1) = true := decide_eq_true c5
              clear c5
              by_cases c6 : (x3_1 ++ (⟨#[46]⟩ : ByteArray)).size + (rdOf ByteArray.empty l0 x4_1).size ≤ 9223372036854775807
              · rw [if_pos c6] at H
                have c6b0 := eq_true c6
                have c6b1 : decide ((x3_1 ++ (⟨#[46]⟩ : ByteArray)).size + (rdOf ByteArray.empty l0 x4_1).size ≤ 9223372036854775807) = true := decide_eq_true c6
                try have c6b2 : (9223372036854775807 < (x3_1 ++ (⟨#[46]⟩ : ByteArray)).size + (rdOf ByteArray.empty l0 x4_1).size) = False := eq_false (Nat.not_lt.2 c6)
                try (have c6b9 := c6b2; simp only [ByteArray.size_append, Road.size_lit, List.size_toArray, List.length_cons, List.length_nil, Nat.reduceAdd] at c6b9)
                have H' := Aside0.mk H
                clear H
                have p126 : 0 ≤ (x4_1 : Int) := of_decide_eq_true (by first | (with_reducible assumption) | assumption)
                have q126 : x4_1 < (l0.length : Int) := of_decide_eq_true (by first | (with_reducible assumption) | assumption)
                obtain ⟨ad126, e126, hx126_0⟩ := Kd.at_string HR0.out x4_1 p126 q126
                cases e126
                replace p126 := eq_true p126
                replace q126 := eq_true q126
                go_wp2
                go_roundg k1
                case measure => have := HK1.out; omega
                case rel => exact ⟨((x3_1 ++ (⟨#[46]⟩ : ByteArray)) ++ (rdOf ByteArray.empty l0 x4_1)), (wrap64 (x4_1 + 1)), (by first | rfl | (simp; done) | (simp [*]; done)), (by first | rfl | (simp; done) | (simp [*]; done)), H', ⟨by have := HK1.out; omega⟩, by repeat (first | exact Drawn0.refl _ | apply Drawn0.step)⟩
              · rw [if_neg c6] at H
                exact absurd H (by simp)
            · rw [if_neg c5] at H
              exact absurd H (by simp)
          · rw [if_neg c4] at H
            exact absurd H (by simp)
        · rw [if_neg c3] at H
          have c3b0 : decide (0 < x4_1) = false := decide_eq_false c3
          clear c3
          by_cases c7 : 0 ≤ x4_1
          · rw [if_pos c7] at H
            have c7b0 : decide (0 ≤ x4_1) = true := decide_eq_true c7
            clear c7
            by_cases c8 : x3_1.size + (rdOf ByteArray.empty l0 x4_1).size ≤ 9223372036854775807
            · rw [if_pos c8] at H
              have c8b0 := eq_true c8
              have c8b1 : decide (x3_1.size + (rdOf ByteArray.empty l0 x4_1).size ≤ 9223372036854775807) = true := decide_eq_true c8
              try have c8b2 : (9223372036854775807 < x3_1.size + (rdOf ByteArray.empty l0 x4_1).size) = False := eq_false (Nat.not_lt.2 c8)
              have H' := Aside0.mk H
              clear H
              have p127 : 0 ≤ (x4_1 : Int) := of_decide_eq_true (by first | (with_reducible assumption) | assumption)
              have q127 : x4_1 < (l0.length : Int) := of_decide_eq_true (by first | (with_reducible assumption) | assumption)
              obtain ⟨ad127, e127, hx127_0⟩ := Kd.at_string HR0.out x4_1 p127 q127
              cases e127
              replace p127 := eq_true p127
              replace q127 := eq_true q127
              go_wp2
              go_roundg k1
              case measure => have := HK1.out; omega
              case rel => exact ⟨(x3_1 ++ (rdOf ByteArray.empty l0 x4_1)), (wrap64 (x4_1 + 1)), (by first | rfl | (simp; done) | (simp [*]; done)), (by first | rfl | (simp; done) | (simp [*]; done)), H', ⟨by have := HK1.out; omega⟩, by repeat (first | exact Drawn0.refl _ | apply Drawn0.step)⟩
            · rw [if_neg c8] at H
              exact absurd H (by simp)
          · rw [if_neg c7] at H
            exact absurd H (by simp)
      · rw [if_neg c2] at H
        have c2b0 : decide (x4_1 < (l0.length : Int)) = false := decide_eq_false c2
        clear c2
        obtain rfl := Option.some.inj H
        go_wp2
        go_ret
        exact ⟨by first | rfl | (simp; done) | (simp [*]; done) | (simp; generalize ByteArray.toList _ = l_; cases l_ <;> rfl), by repeat (first | exact Drawn0.refl _ | apply Drawn0.step)⟩

/-! ### spec_FilterSubject: function 26 -/
def spec_FilterSubject.l0 : Nat → List ByteArray → List ByteArray → Int → Option (ByteArray)
  | 0, _, _, _ => none
  | k + 1, x3, x4, x5 => if x5 < (x4.length : Int) then (if 0 ≤ x5 then (if (rdOf ByteArray.empty x4 x5).toList = ([43] : List UInt8) then (if x3.length < 8796093022208 then (spec_FilterSubject.l0 k (x3 ++ [(⟨#[42]⟩ : ByteArray)]) x4 (wrap64 (x5 + 1))) else (none)) else (if (rdOf ByteArray.empty x4 x5).toList = ([35] : List UInt8) then (if x3.length < 8796093022208 then (spec_FilterSubject.l0 k (x3 ++ [(⟨#[62]⟩ : ByteArray)]) x4 (wrap64 (x5 + 1))) else (none)) else ((spec_level.f k (rdOf ByteArray.empty x4 x5)).bind fun t140 => (if x3.length < 8796093022208 then (spec_FilterSubject.l0 k (x3 ++ [t140]) x4 (wrap64 (x5 + 1))) else (none))))) else (none)) else ((spec_Join.f k x3).bind fun t131 => (some t131))
def spec_FilterSubject.f (k : Nat) (a0 : ByteArray) : Option (ByteArray) := (spec_levels.f k a0).bind fun t128 => (spec_FilterSubject.l0 k ([] : List ByteArray) t128 0)
theorem spec_FilterSubject.mono_l : ∀ k, (∀ y0 y1 y2, LeO (spec_FilterSubject.l0 k y0 y1 y2) (spec_FilterSubject.l0 (k + 1) y0 y1 y2))
  | 0 => fun _ _ _ r h => by simp [spec_FilterSubject.l0] at h
  | k + 1 => by
    have ih0 := spec_FilterSubject.mono_l k
    · intro y0 y1 y2
      unfold spec_FilterSubject.l0
      repeat' first
      | (with_reducible exact ih0 _ _ _)
      | (with_reducible exact spec_Join.mono _ _)
      | (with_reducible exact spec_level.mono _ _)
      | (with_reducible exact spec_levels.mono _ _)
      | (with_reducible exact LeO.refl _)
      | (with_reducible exact LeO.none _)
      | (with_reducible refine LeO.ite ?_ ?_)
      | (with_reducible refine LeO.bind ?_ (fun _ => ?_))
      | exact ih0 _ _ _
      | exact spec_Join.mono _ _
      | exact spec_level.mono _ _
      | exact spec_levels.mono _ _
      | exact LeO.none _
      | refine LeO.ite ?_ ?_
      | refine LeO.bind ?_ (fun _ => ?_)
theorem spec_FilterSubject.mono : ∀ a0 k, LeO (spec_FilterSubject.f k a0) (spec_FilterSubject.f (k + 1) a0) := by
  intro a0 k
  have ih0 := spec_FilterSubject.mono_l k
  unfold spec_FilterSubject.f
  repeat' first
      | (with_reducible exact ih0 _ _ _)
      | (with_reducible exact spec_Join.mono _ _)
      | (with_reducible exact spec_level.mono _ _)
      | (with_reducible exact spec_levels.mono _ _)
      | (with_reducible exact LeO.refl _)
      | (with_reducible exact LeO.none _)
      | (with_reducible refine LeO.ite ?_ ?_)
      | (with_reducible refine LeO.bind ?_ (fun _ => ?_))
      | exact ih0 _ _ _
      | exact spec_Join.mono _ _
      | exact spec_level.mono _ _
      | exact spec_levels.mono _ _
      | exact LeO.none _
      | refine LeO.ite ?_ ?_
      | refine LeO.bind ?_ (fun _ => ?_)
set_option maxHeartbeats 8000000 in
set_option maxRecDepth 100000 in
theorem spec_FilterSubject.calls (k : Nat) (a0 : ByteArray) (r : ByteArray) (w : World) (h : spec_FilterSubject.f k a0 = some r) :
    Calls Tryd.prog 26 #[.string a0] w fun e w' => e = .returned (.string r) ∧ Below w.heap.size w w' := by
  have HB := Aside0.mk (Below.refl w.heap.size w)
  have H : ((spec_levels.f k a0).bind fun t128 => (spec_FilterSubject.l0 k ([] : List ByteArray) t128 0)) = some r := h
  clear h
  replace H := Option.bind_eq_some_iff.mp H
  obtain ⟨t128, A20, H⟩ := H
  replace H : (spec_FilterSubject.l0 k ([] : List ByteArray) t128 0) = some r := H
  have A2 := Aside0.mk A20
  clear A20
  have H' := Aside0.mk H
  clear H
  go_enter Tryd.func26, Tryd.ntmps26
  go_wp2_with (first | ((with_reducible refine gate_callee (f := 45) rfl ?_); refine goesL_ (some 7) rfl rfl Tryd.func45 (by kernel_rfl) rfl #[.string a0] rfl (by (try simp only [List.map_toArray, List.map_cons, List.map_nil]); first | done | rfl | (simp only [List.length_drop, List.length_take]; rfl)) ?_; (with_reducible refine (spec_levels.calls k a0 t128 _ A2.out).mono ?_); rintro e w3 ⟨v129, rfl, ho0, hb⟩; refine ⟨_, rfl, ?_⟩; have n0_ := Aside0.mk (Kd.R_lower ho0 (below_size (by repeat (first | (with_reducible first | exact HB.out | apply below_alloc | apply pw_below_drewN | apply below_drew1) | exact HB.out)))); have n1_ := Aside0.mk (below_step (by repeat (first | (with_reducible first | exact HB.out | apply below_alloc | apply pw_below_drewN | apply below_drew1) | exact HB.out)) hb); clear HB; have HO130 := n0_; have HB := n1_; clear n0_ n1_; (try clear hb); (try clear hb2); (try clear hk); (try clear hi); (try clear ho0)))
  go_loopg [3, 5] k (fun kq v3 v5 w' => ∃ (x3_1 : List ByteArray) (x5_1 : Int), v5 = .int .i64 x5_1 ∧ Aside0 (spec_FilterSubject.l0 kq x3_1 t128 x5_1 = some r) ∧ Aside0 (kq ≤ k) ∧ Aside0 (Kd.R Kd.string 9 w' w.heap.size (fun k_ => some k_ ≠ (v129 : Value).ownBlock) v3 x3_1) ∧ Aside0 (Kd.R Kd.string 9 w' w.heap.size (fun k_ => some k_ ≠ (v3 : Value).ownBlock) v129 t128) ∧ Aside0 (Below w.heap.size w w'))
  case atStart => exact ⟨(([] : List ByteArray)), (0), (by first | rfl | (simp; done) | (simp [*]; done)), H', ⟨Nat.le_refl _⟩, ⟨by first | exact Kd.R_nil _ _ _ _ _ | exact Kd.N_nil _ _ _ _ _ | exact Kd.V_nil _ _ _ _ _ | exact Kd.Q_nil _ _ _ _ _ | exact Kd.S_nil _ _ _ _ _⟩, ⟨by (with_reducible repeat (first | apply Kd.R_alloc | apply Kd.R_drewN | apply Kd.R_drew)); exact Kd.R_mono HO130.out (fun _ hk => (by simp [Value.ownBlock]))⟩, ⟨by repeat (first | (with_reducible first | exact HB.out | apply below_alloc | apply pw_below_drewN | apply below_drew1) | exact HB.out)⟩⟩
  case round =>
    clear H'
    try clear c2
    try clear p2
    obtain ⟨x3_1, x5_1, rfl, HA, HK1, HO_3, HO_4, HB⟩ := hrel
    cases gk with
    | zero => exact absurd HA.out (by simp [spec_FilterSubject.l0])
    | succ k1 =>
      have H := HA.out
      clear HA
      simp only [spec_FilterSubject.l0] at H
      by_cases c4 : x5_1 < (t128.length : Int)
      · rw [if_pos c4] at H
        have c4b0 : decide (x5_1 < (t128.length : Int)) = true := decide_eq_true c4
        clear c4
        by_cases c5 : 0 ≤ x5_1
        · rw [if_pos c5] at H
          have c5b0 : decide (0 ≤ x5_1) = true := decide_eq_true c5
          clear c5
          by_cases c6 : (rdOf ByteArray.empty t128 x5_1).toList = ([43] : List UInt8)
          · rw [if_pos c6] at H
            have c6b0 : ((rdOf ByteArray.empty t128 x5_1).toList == ([43] : List UInt8)) = true := beq_iff_eq.mpr c6
            have c6b1 : ((rdOf ByteArray.empty t128 x5_1).toList != ([43] : List UInt8)) = false := bne_eq_false_iff_eq.mpr c6
            clear c6
            by_cases c7 : x3_1.length < 8796093022208
            · rw [if_pos c7] at H
              have LMc7 := Aside0.mk c7
              clear c7
              obtain ⟨y133, hy133⟩ : ∃ y_ : List ByteArray, y_ = (x3_1 ++ [(⟨#[42]⟩ : ByteArray)]) := ⟨_, rfl⟩
              replace H : (spec_FilterSubject.l0 k1 y133 t128 (wrap64 (x5_1 + 1))) = some r := by first | (rw [hy133]; with_reducible exact H) | (have H2_ := (Option.bind_some _ _).symm.trans H; rw [hy133]; with_reducible exact H2_) | (have H2_ := (Option.bind_some _ _).symm.trans H; with_reducible exact H2_) | with_reducible exact H | (rw [hy133]; exact H) | exact H
              have Ny133 := Aside0.mk hy133
              clear hy133
              have H' := Aside0.mk H
              clear H
              obtain ⟨Ao8, co8, eo8⟩ := Kd.R_slice HO_4.out
              subst eo8
              have p132 : 0 ≤ (x5_1 : Int) := of_decide_eq_true (by first | (with_reducible assumption) | assumption)
              have q132 : x5_1 < (t128.length : Int) := of_decide_eq_true (by first | (with_reducible assumption) | assumption)
              obtain ⟨ad132, e132, hx132_0⟩ := Kd.at_string (Kd.R_reads' HO_4.out).2.2 x5_1 p132 q132
              cases e132
              replace p132 := eq_true p132
              replace q132 := eq_true q132
              go_wp2_with (first | ((with_reducible refine gate_builtin (b := .append) (xs := #[.tmp 28, .tmp 29]) rfl ?_); at_builtin; refine Kd.R_append Kd.string (w0 := w) w.heap.size rfl (.tmp 28) (.tmp 29) 64 9 (.string ⟨#[]⟩) 16 rfl Tryd.underlying64 info9 rfl (by decide) (by omega) u3 x3_1 (⟨#[42]⟩ : ByteArray) [.string (⟨#[42]⟩ : ByteArray)] (fun k_ => some k_ ≠ (.slice (some ad132) t128.length co8 : Value).ownBlock) (fun _ => False) rfl rfl ?aP (fun _ hk => hk.elim) ?aF ?aO ?aB ?aS ?aL ?_; (case aP => exact rfl); (case aB => exact (by repeat (first | (with_reducible first | exact HB.out | apply below_alloc | apply pw_below_drewN | apply below_drew1) | exact HB.out))); (case aF => exact (fun k_ hk => Kd.fresh' (Kd.R_lt (by (with_reducible repeat (first | apply Kd.R_alloc | apply Kd.R_drewN | apply Kd.R_drew)); exact HO_4.out)) k_ hk)); (case aO => exact (by (with_reducible repeat (first | apply Kd.R_alloc | apply Kd.R_drewN | apply Kd.R_drew)); exact HO_3.out)); (case aS => exact (below_size (by repeat (first | (with_reducible first | exact HB.out | apply below_alloc | apply pw_below_drewN | apply below_drew1) | exact HB.out)))); (case aL => have := LMc7.out; omega); intro v134 w9 ho hb hg hat; rw [← Ny133.out] at ho; have n0_ := Aside0.mk (Kd.R_after (ok := (fun _ => True)) (by (with_reducible repeat (first | apply Kd.R_alloc | apply Kd.R_drewN | apply Kd.R_drew)); exact Kd.R_mono HO_4.out (fun _ hk => ⟨trivial, hk⟩)) hg hat); have n1_ := Aside0.mk (hb); have n2_ := Aside0.mk (ho); clear HO_4; clear HB; clear HO_3; have HO_4 := n0_; have HB := n1_; have HO135 := n2_; clear n0_ n1_ n2_; clear ho hb hg hat))
              go_roundg k1
              case measure => have := HK1.out; omega
              case rel => exact ⟨(y133), (wrap64 (x5_1 + 1)), (by first | rfl | (simp; done) | (simp [*]; done)), H', ⟨by have := HK1.out; omega⟩, ⟨by (with_reducible repeat (first | apply Kd.R_alloc | apply Kd.R_drewN | apply Kd.R_drew)); exact HO135.out⟩, ⟨by (with_reducible repeat (first | apply Kd.R_alloc | apply Kd.R_drewN | apply Kd.R_drew)); exact Kd.R_mono HO_4.out (fun _ hk => hk.2)⟩, ⟨by repeat (first | (with_reducible first | exact HB.out | apply below_alloc | apply pw_below_drewN | apply below_drew1) | exact HB.out)⟩⟩
            · rw [if_neg c7] at H
              exact absurd H (by simp)
          · rw [if_neg c6] at H
            have c6b0 : ((rdOf ByteArray.empty t128 x5_1).toList == ([43] : List UInt8)) = false := beq_eq_false_iff_ne.mpr c6
            have c6b1 : ((rdOf ByteArray.empty t128 x5_1).toList != ([43] : List UInt8)) = true := bne_iff_ne.mpr c6
            by_cases c10 : (rdOf ByteArray.empty t128 x5_1).toList = ([35] : List UInt8)
            · rw [if_pos c10] at H
              have c10b0 : ((rdOf ByteArray.empty t128 x5_1).toList == ([35] : List UInt8)) = true := beq_iff_eq.mpr c10
              have c10b1 : ((rdOf ByteArray.empty t128 x5_1).toList != ([35] : List UInt8)) = false := bne_eq_false_iff_eq.mpr c10
              clear c10
              by_cases c11 : x3_1.length < 8796093022208
              · rw [if_pos c11] at H
                have LMc11 := Aside0.mk c11
                clear c11
                obtain ⟨y136, hy136⟩ : ∃ y_ : List ByteArray, y_ = (x3_1 ++ [(⟨#[62]⟩ : ByteArray)]) := ⟨_, rfl⟩
                replace H : (spec_FilterSubject.l0 k1 y136 t128 (wrap64 (x5_1 + 1))) = some r := by first | (rw [hy136]; with_reducible exact H) | (have H2_ := (Option.bind_some _ _).symm.trans H; rw [hy136]; with_reducible exact H2_) | (have H2_ := (Option.bind_some _ _).symm.trans H; with_reducible exact H2_) | with_reducible exact H | (rw [hy136]; exact H) | exact H
                have Ny136 := Aside0.mk hy136
                clear hy136
                have H' := Aside0.mk H
                clear H
                obtain ⟨Ao12, co12, eo12⟩ := Kd.R_slice HO_4.out
                subst eo12
                have p132 : 0 ≤ (x5_1 : Int) := of_decide_eq_true (by first | (with_reducible assumption) | assumption)
                have q132 : x5_1 < (t128.length : Int) := of_decide_eq_true (by first | (with_reducible assumption) | assumption)
                obtain ⟨ad132, e132, hx132_0⟩ := Kd.at_string (Kd.R_reads' HO_4.out).2.2 x5_1 p132 q132
                cases e132
                replace p132 := eq_true p132
                replace q132 := eq_true q132
                go_wp2_with (first | ((with_reducible refine gate_builtin (b := .append) (xs := #[.tmp 33, .tmp 34]) rfl ?_); at_builtin; refine Kd.R_append Kd.string (w0 := w) w.heap.size rfl (.tmp 33) (.tmp 34) 64 9 (.string ⟨#[]⟩) 16 rfl Tryd.underlying64 info9 rfl (by decide) (by omega) u3 x3_1 (⟨#[62]⟩ : ByteArray) [.string (⟨#[62]⟩ : ByteArray)] (fun k_ => some k_ ≠ (.slice (some ad132) t128.length co12 : Value).ownBlock) (fun _ => False) rfl rfl ?aP (fun _ hk => hk.elim) ?aF ?aO ?aB ?aS ?aL ?_; (case aP => exact rfl); (case aB => exact (by repeat (first | (with_reducible first | exact HB.out | apply below_alloc | apply pw_below_drewN | apply below_drew1) | exact HB.out))); (case aF => exact (fun k_ hk => Kd.fresh' (Kd.R_lt (by (with_reducible repeat (first | apply Kd.R_alloc | apply Kd.R_drewN | apply Kd.R_drew)); exact HO_4.out)) k_ hk)); (case aO => exact (by (with_reducible repeat (first | apply Kd.R_alloc | apply Kd.R_drewN | apply Kd.R_drew)); exact HO_3.out)); (case aS => exact (below_size (by repeat (first | (with_reducible first | exact HB.out | apply below_alloc | apply pw_below_drewN | apply below_drew1) | exact HB.out)))); (case aL => have := LMc11.out; omega); intro v137 w13 ho hb hg hat; rw [← Ny136.out] at ho; have n0_ := Aside0.mk (Kd.R_after (ok := (fun _ => True)) (by (with_reducible repeat (first | apply Kd.R_alloc | apply Kd.R_drewN | apply Kd.R_drew)); exact Kd.R_mono HO_4.out (fun _ hk => ⟨trivial, hk⟩)) hg hat); have n1_ := Aside0.mk (hb); have n2_ := Aside0.mk (ho); clear HO_4; clear HB; clear HO_3; have HO_4 := n0_; have HB := n1_; have HO138 := n2_; clear n0_ n1_ n2_; clear ho hb hg hat))
                go_roundg k1
                case measure => have := HK1.out; omega
                case rel => exact ⟨(y136), (wrap64 (x5_1 + 1)), (by first | rfl | (simp; done) | (simp [*]; done)), H', ⟨by have := HK1.out; omega⟩, ⟨by (with_reducible repeat (first | apply Kd.R_alloc | apply Kd.R_drewN | apply Kd.R_drew)); exact HO138.out⟩, ⟨by (with_reducible repeat (first | apply Kd.R_alloc | apply Kd.R_drewN | apply Kd.R_drew)); exact Kd.R_mono HO_4.out (fun _ hk => hk.2)⟩, ⟨by repeat (first | (with_reducible first | exact HB.out | apply below_alloc | apply pw_below_drewN | apply below_drew1) | exact HB.out)⟩⟩
              · rw [if_neg c11] at H
                exact absurd H (by simp)
            · rw [if_neg c10] at H
              have c10b0 : ((rdOf ByteArray.empty t128 x5_1).toList == ([35] : List UInt8)) = false := beq_eq_false_iff_ne.mpr c10
              have c10b1 : ((rdOf ByteArray.empty t128 x5_1).toList != ([35] : List UInt8)) = true := bne_iff_ne.mpr c10
              replace H := Option.bind_eq_some_iff.mp H
              obtain ⟨t140, A140, H⟩ := H
              replace H : (if x3_1.length < 8796093022208 then (spec_FilterSubject.l0 k1 (x3_1 ++ [t140]) t128 (wrap64 (x5_1 + 1))) else (none)) = some r := H
              have A14 := Aside0.mk A140
              clear A140
              by_cases c15 : x3_1.length < 8796093022208
              · rw [if_pos c15] at H
                have LMc15 := Aside0.mk c15
                clear c15
                obtain ⟨y141, hy141⟩ : ∃ y_ : List ByteArray, y_ = (x3_1 ++ [t140]) := ⟨_, rfl⟩
                replace H : (spec_FilterSubject.l0 k1 y141 t128 (wrap64 (x5_1 + 1))) = some r := by first | (rw [hy141]; with_reducible exact H) | (have H2_ := (Option.bind_some _ _).symm.trans H; rw [hy141]; with_reducible exact H2_) | (have H2_ := (Option.bind_some _ _).symm.trans H; with_reducible exact H2_) | with_reducible exact H | (rw [hy141]; exact H) | exact H
                have Ny141 := Aside0.mk hy141
                clear hy141
                have H' := Aside0.mk H
                clear H
                obtain ⟨Ao16, co16, eo16⟩ := Kd.R_slice HO_4.out
                subst eo16
                have p132 : 0 ≤ (x5_1 : Int) := of_decide_eq_true (by first | (with_reducible assumption) | assumption)
                have q132 : x5_1 < (t128.length : Int) := of_decide_eq_true (by first | (with_reducible assumption) | assumption)
                obtain ⟨ad132, e132, hx132_0⟩ := Kd.at_string (Kd.R_reads' HO_4.out).2.2 x5_1 p132 q132
                cases e132
                replace p132 := eq_true p132
                replace q132 := eq_true q132
                have p139 : 0 ≤ (x5_1 : Int) := of_decide_eq_true (by first | (with_reducible assumption) | assumption)
                have q139 : x5_1 < (t128.length : Int) := of_decide_eq_true (by first | (with_reducible assumption) | assumption)
                obtain ⟨ad139, e139, hx139_0⟩ := Kd.at_string (Kd.R_reads' HO_4.out).2.2 x5_1 p139 q139
                obtain rfl : ad132 = ad139 := (by injection e139)
                replace p139 := eq_true p139
                replace q139 := eq_true q139
                go_wp2_with (first | ((with_reducible refine gate_callee (f := 46) rfl ?_); refine goesL_ (some 23) rfl rfl Tryd.func46 (by kernel_rfl) rfl #[.string (rdOf ByteArray.empty t128 x5_1)] rfl (by (try simp only [List.map_toArray, List.map_cons, List.map_nil]); first | done | rfl | (simp only [List.length_drop, List.length_take]; rfl)) ?_; (with_reducible refine (spec_level.calls k1 (rdOf ByteArray.empty t128 x5_1) t140 _ A14.out).mono ?_); rintro e w' ⟨rfl, ⟨nd, rfl⟩⟩; refine ⟨_, rfl, ?_⟩) | ((with_reducible refine gate_builtin (b := .append) (xs := #[.tmp 18, .tmp 24]) rfl ?_); at_builtin; refine Kd.R_append Kd.string (w0 := w) w.heap.size rfl (.tmp 18) (.tmp 24) 64 9 (.string ⟨#[]⟩) 16 rfl Tryd.underlying64 info9 rfl (by decide) (by omega) u3 x3_1 t140 [.string t140] (fun k_ => some k_ ≠ (.slice (some ad132) t128.length co16 : Value).ownBlock) (fun _ => False) rfl rfl ?aP (fun _ hk => hk.elim) ?aF ?aO ?aB ?aS ?aL ?_; (case aP => exact rfl); (case aB => exact (by repeat (first | (with_reducible first | exact HB.out | apply below_alloc | apply pw_below_drewN | apply below_drew1) | exact HB.out))); (case aF => exact (fun k_ hk => Kd.fresh' (Kd.R_lt (by (with_reducible repeat (first | apply Kd.R_alloc | apply Kd.R_drewN | apply Kd.R_drew)); exact HO_4.out)) k_ hk)); (case aO => exact (by (with_reducible repeat (first | apply Kd.R_alloc | apply Kd.R_drewN | apply Kd.R_drew)); exact HO_3.out)); (case aS => exact (below_size (by repeat (first | (with_reducible first | exact HB.out | apply below_alloc | apply pw_below_drewN | apply below_drew1) | exact HB.out)))); (case aL => have := LMc15.out; omega); intro v142 w17 ho hb hg hat; rw [← Ny141.out] at ho; have n0_ := Aside0.mk (Kd.R_after (ok := (fun _ => True)) (by (with_reducible repeat (first | apply Kd.R_alloc | apply Kd.R_drewN | apply Kd.R_drew)); exact Kd.R_mono HO_4.out (fun _ hk => ⟨trivial, hk⟩)) hg hat); have n1_ := Aside0.mk (hb); have n2_ := Aside0.mk (ho); clear HO_4; clear HB; clear HO_3; have HO_4 := n0_; have HB := n1_; have HO143 := n2_; clear n0_ n1_ n2_; clear ho hb hg hat))
                go_roundg k1
                case measure => have := HK1.out; omega
                case rel => exact ⟨(y141), (wrap64 (x5_1 + 1)), (by first | rfl | (simp; done) | (simp [*]; done)), H', ⟨by have := HK1.out; omega⟩, ⟨by (with_reducible repeat (first | apply Kd.R_alloc | apply Kd.R_drewN | apply Kd.R_drew)); exact HO143.out⟩, ⟨by (with_reducible repeat (first | apply Kd.R_alloc | apply Kd.R_drewN | apply Kd.R_drew)); exact Kd.R_mono HO_4.out (fun _ hk => hk.2)⟩, ⟨by repeat (first | (with_reducible first | exact HB.out | apply below_alloc | apply pw_below_drewN | apply below_drew1) | exact HB.out)⟩⟩
              · rw [if_neg c15] at H
                exact absurd H (by simp)
        · rw [if_neg c5] at H
          exact absurd H (by simp)
      · rw [if_neg c4] at H
        have c4b0 : decide (x5_1 < (t128.length : Int)) = false := decide_eq_false c4
        clear c4
        replace H := Option.bind_eq_some_iff.mp H
        obtain ⟨t131, A180, H⟩ := H
        replace H : (some t131) = some r := H
        have A18 := Aside0.mk A180
        clear A180
        obtain rfl := Option.some.inj H
        obtain ⟨Ao19, co19, eo19⟩ := Kd.R_slice HO_4.out
        subst eo19
        obtain ⟨Ao20, co20, eo20⟩ := Kd.R_slice HO_3.out
        subst eo20
        go_wp2_with (first | ((with_reducible refine gate_callee (f := 47) rfl ?_); refine goesL_ (some 37) rfl rfl Tryd.func47 (by kernel_rfl) rfl #[.slice Ao20 x3_1.length co20] rfl (by (try simp only [List.map_toArray, List.map_cons, List.map_nil]); first | done | rfl | (simp only [List.length_drop, List.length_take]; rfl)) ?_; (with_reducible refine (spec_Join.calls k1 _ _ x3_1 t131 _ ?side1 ?side2 A18.out).mono ?_); (case side1 => repeat (first | exact (Kd.R_reads' HO_3.out).2.2 | (with_reducible refine Kd.C_alloc ?_ _) | (with_reducible refine Kd.C_drewN ?_ _) | (with_reducible refine Kd.C_drew ?_))); (case side2 => exact (Kd.R_reads' HO_3.out).2.1); rintro e w' ⟨rfl, ⟨nd, rfl⟩⟩; refine ⟨_, rfl, ?_⟩))
        go_ret
        exact ⟨by first | rfl | (simp [errW_none, errW_some] <;> rfl) | (simp [*, errW_none, errW_some] <;> rfl) | (simp [errW_none, errW_some]; generalize ByteArray.toList _ = l_; cases l_ <;> rfl), by repeat (first | (with_reducible first | exact HB.out | apply below_alloc | apply pw_below_drewN | apply below_drew1) | exact HB.out)⟩

-- NOT PRINTED: function 57 (server_mqttFilterToNATSSubject)

-- NOT PRINTED: function 48 (server_FilterToSubject)

end Go.Proofs.YtmfblbjklmgncaaDoor.PFnFilterSubject
