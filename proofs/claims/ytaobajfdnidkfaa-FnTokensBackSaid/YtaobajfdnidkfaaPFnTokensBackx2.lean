-- PRINTED BY print.sh 35421559b90ae4d0a3588c463048766b98c2df88dd9212a6774a882060cdf62d: not written by this session
import Derived.Test.YtaobajfdnidkfaaPFnTokensBackx0
import Derived.Test.YtaobajfdnidkfaaPFnTokensBackx1
namespace Go.Proofs.Ytaobajfdnidkfaa.PFnTokensBack
open Go.RowKit Go.Proofs.YtaobajfdnidkfaaW.PrintWords Go.Proofs.YtaobajfdnidkfaaW.PrintLast Go.Proofs.YtaobajfdnidkfaaW.PrintMore
attribute [local go_sem] max2_int min2_int max_two min_two max_three min_three max_four min_four   -- for this text's walks alone
set_option linter.unusedVariables false
set_option linter.unusedSimpArgs false

/-! ### laws_tame: function 35 -/
mutual
def laws_tame.l0 : Nat → List ByteArray → Int → Option (Bool)
  | 0, _, _ => none
  | k + 1, x3, x4 => if x4 < (x3.length : Int) then (laws_tame.l1 k x3 x4 0) else (some true)
def laws_tame.l1 : Nat → List ByteArray → Int → Int → Option (Bool)
  | 0, _, _, _ => none
  | k + 1, x3, x4, x5 => if 0 ≤ x4 then (if x4 < (x3.length : Int) then (if x5 < ((rdOf ByteArray.empty x3 x4).size : Int) then (laws_tame.j2 k x3 x4 x5 (decide (((rdOf ByteArray.empty x3 x4).size : Int) > 1))) else (laws_tame.j2 k x3 x4 x5 false)) else (none)) else (none)
def laws_tame.j2 : Nat → List ByteArray → Int → Int → Bool → Option (Bool)
  | 0, _, _, _, _ => none
  | k + 1, x3, x4, x5, x28 => if x28 = true then (if 0 ≤ x4 then (if x4 < (x3.length : Int) then (if 0 ≤ x5 then (if x5 < ((rdOf ByteArray.empty x3 x4).size : Int) then (if (bt (rdOf ByteArray.empty x3 x4) x5) = 42 then (some false) else (if (bt (rdOf ByteArray.empty x3 x4) x5) = 62 then (some false) else (laws_tame.l1 k x3 x4 (wrap64 (x5 + 1))))) else (none)) else (none)) else (none)) else (none)) else (laws_tame.l0 k x3 (wrap64 (x4 + 1)))
end
def laws_tame.f (k : Nat) (a0 : ByteArray) : Option (Bool) := (spec_Tokens.f k a0).bind fun t115 => (laws_tame.l0 k t115 0)
theorem laws_tame.mono_l : ∀ k, (∀ y0 y1, LeO (laws_tame.l0 k y0 y1) (laws_tame.l0 (k + 1) y0 y1)) ∧ (∀ y0 y1 y2, LeO (laws_tame.l1 k y0 y1 y2) (laws_tame.l1 (k + 1) y0 y1 y2)) ∧ (∀ y0 y1 y2 y3, LeO (laws_tame.j2 k y0 y1 y2 y3) (laws_tame.j2 (k + 1) y0 y1 y2 y3))
  | 0 => ⟨fun _ _ r h => by simp [laws_tame.l0] at h, fun _ _ _ r h => by simp [laws_tame.l1] at h, fun _ _ _ _ r h => by simp [laws_tame.j2] at h⟩
  | k + 1 => by
    obtain ⟨ih0, ih1, ih2⟩ := laws_tame.mono_l k
    refine ⟨?_, ?_, ?_⟩
    · intro y0 y1
      unfold laws_tame.l0
      repeat' first
      | (with_reducible exact ih0 _ _)
      | (with_reducible exact ih1 _ _ _)
      | (with_reducible exact ih2 _ _ _ _)
      | (with_reducible exact spec_Tokens.mono _ _)
      | (with_reducible exact LeO.refl _)
      | (with_reducible exact LeO.none _)
      | (with_reducible refine LeO.ite ?_ ?_)
      | (with_reducible refine LeO.bind ?_ (fun _ => ?_))
      | exact ih0 _ _
      | exact ih1 _ _ _
      | exact ih2 _ _ _ _
      | exact spec_Tokens.mono _ _
      | exact LeO.none _
      | refine LeO.ite ?_ ?_
      | refine LeO.bind ?_ (fun _ => ?_)
    · intro y0 y1 y2
      unfold laws_tame.l1
      repeat' first
      | (with_reducible exact ih0 _ _)
      | (with_reducible exact ih1 _ _ _)
      | (with_reducible exact ih2 _ _ _ _)
      | (with_reducible exact spec_Tokens.mono _ _)
      | (with_reducible exact LeO.refl _)
      | (with_reducible exact LeO.none _)
      | (with_reducible refine LeO.ite ?_ ?_)
      | (with_reducible refine LeO.bind ?_ (fun _ => ?_))
      | exact ih0 _ _
      | exact ih1 _ _ _
      | exact ih2 _ _ _ _
      | exact spec_Tokens.mono _ _
      | exact LeO.none _
      | refine LeO.ite ?_ ?_
      | refine LeO.bind ?_ (fun _ => ?_)
    · intro y0 y1 y2 y3
      unfold laws_tame.j2
      repeat' first
      | (with_reducible exact ih0 _ _)
      | (with_reducible exact ih1 _ _ _)
      | (with_reducible exact ih2 _ _ _ _)
      | (with_reducible exact spec_Tokens.mono _ _)
      | (with_reducible exact LeO.refl _)
      | (with_reducible exact LeO.none _)
      | (with_reducible refine LeO.ite ?_ ?_)
      | (with_reducible refine LeO.bind ?_ (fun _ => ?_))
      | exact ih0 _ _
      | exact ih1 _ _ _
      | exact ih2 _ _ _ _
      | exact spec_Tokens.mono _ _
      | exact LeO.none _
      | refine LeO.ite ?_ ?_
      | refine LeO.bind ?_ (fun _ => ?_)
theorem laws_tame.mono : ∀ a0 k, LeO (laws_tame.f k a0) (laws_tame.f (k + 1) a0) := by
  intro a0 k
  obtain ⟨ih0, ih1, ih2⟩ := laws_tame.mono_l k
  unfold laws_tame.f
  repeat' first
      | (with_reducible exact ih0 _ _)
      | (with_reducible exact ih1 _ _ _)
      | (with_reducible exact ih2 _ _ _ _)
      | (with_reducible exact spec_Tokens.mono _ _)
      | (with_reducible exact LeO.refl _)
      | (with_reducible exact LeO.none _)
      | (with_reducible refine LeO.ite ?_ ?_)
      | (with_reducible refine LeO.bind ?_ (fun _ => ?_))
      | exact ih0 _ _
      | exact ih1 _ _ _
      | exact ih2 _ _ _ _
      | exact spec_Tokens.mono _ _
      | exact LeO.none _
      | refine LeO.ite ?_ ?_
      | refine LeO.bind ?_ (fun _ => ?_)
set_option maxHeartbeats 8000000 in
set_option maxRecDepth 100000 in
theorem laws_tame.calls (k : Nat) (a0 : ByteArray) (r : Bool) (w : World) (h : laws_tame.f k a0 = some r) :
    Calls Try.prog 35 #[.string a0] w fun e w' => e = .returned (.bool r) ∧ Below w.heap.size w w' := by
  have HB := Aside0.mk (Below.refl w.heap.size w)
  have H : ((spec_Tokens.f k a0).bind fun t115 => (laws_tame.l0 k t115 0)) = some r := h
  clear h
  replace H := Option.bind_eq_some_iff.mp H
  obtain ⟨t115, A20, H⟩ := H
  replace H : (laws_tame.l0 k t115 0) = some r := H
  have A2 := Aside0.mk A20
  clear A20
  have H' := Aside0.mk H
  clear H
  go_enter Try.func35, Try.ntmps35
  go_wp2_with (first | ((with_reducible refine gate_callee (f := 37) rfl ?_); refine goesL_ (some 7) rfl rfl Try.func37 (by kernel_rfl) rfl #[.string a0] rfl (by (try simp only [List.map_toArray, List.map_cons, List.map_nil]); first | done | rfl | (simp only [List.length_drop, List.length_take]; rfl)) ?_; (with_reducible refine (spec_Tokens.calls k a0 t115 _ A2.out).mono ?_); rintro e w3 ⟨v116, rfl, ho0, hb⟩; refine ⟨_, rfl, ?_⟩; have n0_ := Aside0.mk (Kd.R_lower ho0 (below_size (by repeat (first | (with_reducible first | exact HB.out | apply below_alloc | apply pw_below_drewN | apply below_drew1) | exact HB.out)))); have n1_ := Aside0.mk (below_step (by repeat (first | (with_reducible first | exact HB.out | apply below_alloc | apply pw_below_drewN | apply below_drew1) | exact HB.out)) hb); clear HB; have HO117 := n0_; have HB := n1_; clear n0_ n1_; (try clear hb); (try clear hb2); (try clear hk); (try clear hi); (try clear ho0)))
  go_loopg [4] k (fun kq v4 w' => ∃ (x4_1 : Int), v4 = .int .i64 x4_1 ∧ Aside0 (laws_tame.l0 kq t115 x4_1 = some r) ∧ Aside0 (kq ≤ k) ∧ Aside0 (Kd.R Kd.string 9 w' w.heap.size (fun _ => True) v116 t115) ∧ Aside0 (Below w.heap.size w w'))
  case atStart => exact ⟨(0), (by first | rfl | (simp; done) | (simp [*]; done)), H', ⟨Nat.le_refl _⟩, ⟨by (with_reducible repeat (first | apply Kd.R_alloc | apply Kd.R_drewN | apply Kd.R_drew)); exact HO117.out⟩, ⟨by repeat (first | (with_reducible first | exact HB.out | apply below_alloc | apply pw_below_drewN | apply below_drew1) | exact HB.out)⟩⟩
  case round =>
    clear H'
    try clear p2
    try clear c3
    obtain ⟨x4_1, rfl, HA, HK1, HO_3, HB⟩ := hrel
    cases gk with
    | zero => exact absurd HA.out (by simp [laws_tame.l0])
    | succ k1 =>
      have H := HA.out
      clear HA
      simp only [laws_tame.l0] at H
      by_cases c4 : x4_1 < (t115.length : Int)
      · rw [if_pos c4] at H
        have c4b0 : decide (x4_1 < (t115.length : Int)) = true := decide_eq_true c4
        clear c4
        have H' := Aside0.mk H
        clear H
        obtain ⟨Ao5, co5, eo5⟩ := Kd.R_slice HO_3.out
        subst eo5
        go_wp2
        go_loopg [5] k1 (fun kq v5 w' => ∃ (x5_2 : Int), v5 = .int .i64 x5_2 ∧ Aside0 (laws_tame.l1 kq t115 x4_1 x5_2 = some r) ∧ Aside0 (kq ≤ k1) ∧ Aside0 (Kd.R Kd.string 9 w' w.heap.size (fun _ => True) (.slice Ao5 t115.length co5) t115) ∧ Aside0 (Below w.heap.size w w'))
        case atStart => exact ⟨(0), (by first | rfl | (simp; done) | (simp [*]; done)), H', ⟨Nat.le_refl _⟩, ⟨by (with_reducible repeat (first | apply Kd.R_alloc | apply Kd.R_drewN | apply Kd.R_drew)); exact HO_3.out⟩, ⟨by repeat (first | (with_reducible first | exact HB.out | apply below_alloc | apply pw_below_drewN | apply below_drew1) | exact HB.out)⟩⟩
        case round =>
          clear H'
          try clear p2
          try clear c3
          try clear c4
          try clear c4b0
          try clear p2
          obtain ⟨x5_2, rfl, HA, HK2, HO_3, HB⟩ := hrel
          cases gk with
          | zero => exact absurd HA.out (by simp [laws_tame.l1])
          | succ k2 =>
            have H := HA.out
            clear HA
            simp only [laws_tame.l1] at H
            have HC6 := Aside0.mk H
            clear H
            go_upto_region 6 with (fail)
            go_cut [28] (fun v28 wc => ∃ (kq : Nat) (x28_5 : Bool), v28 = .bool x28_5 ∧ Aside0 (laws_tame.j2 kq t115 x4_1 x5_2 x28_5 = some r) ∧ Aside0 (kq ≤ k2) ∧ Aside0 (Kd.R Kd.string 9 wc w.heap.size (fun _ => True) (.slice Ao5 t115.length co5) t115) ∧ Aside0 (Below w.heap.size w wc))
            case first =>
              have H := HC6.out
              clear HC6
              by_cases c7 : 0 ≤ x4_1
              · rw [if_pos c7] at H
                have c7b0 : decide (0 ≤ x4_1) = true := decide_eq_true c7
                clear c7
                (first | rw [c7b0] | (simp only [i64_w, i32_w]; rw [c7b0]) | skip)
                by_cases c8 : x4_1 < (t115.length : Int)
                · rw [if_pos c8] at H
                  have c8b0 : decide (x4_1 < (t115.length : Int)) = true := decide_eq_true c8
                  clear c8
                  by_cases c9 : x5_2 < ((rdOf ByteArray.empty t115 x4_1).size : Int)
                  · rw [if_pos c9] at H
                    have c9b0 : decide (x5_2 < ((rdOf ByteArray.empty t115 x4_1).size : Int)) = true := decide_eq_true c9
                    clear c9
                    have H' := Aside0.mk H
                    clear H
                    have p118 : 0 ≤ (x4_1 : Int) := of_decide_eq_true (by first | (with_reducible assumption) | assumption)
                    have q118 : x4_1 < (t115.length : Int) := of_decide_eq_true (by first | (with_reducible assumption) | assumption)
                    obtain ⟨ad118, e118, hx118_0⟩ := Kd.at_string (Kd.R_reads' HO_3.out).2.2 x4_1 p118 q118
                    cases e118
                    replace p118 := eq_true p118
                    replace q118 := eq_true q118
                    have p119 : 0 ≤ (x4_1 : Int) := of_decide_eq_true (by first | (with_reducible assumption) | assumption)
                    have q119 : x4_1 < (t115.length : Int) := of_decide_eq_true (by first | (with_reducible assumption) | assumption)
                    obtain ⟨ad119, e119, hx119_0⟩ := Kd.at_string (Kd.R_reads' HO_3.out).2.2 x4_1 p119 q119
                    obtain rfl : ad118 = ad119 := (by injection e119)
                    replace p119 := eq_true p119
                    replace q119 := eq_true q119
                    go_wp2
                    go_meet
                    case rel => exact ⟨_, (decide (((rdOf ByteArray.empty t115 x4_1).size : Int) > 1)), (by first | rfl | (simp; done) | (simp [*]; done)), H', ⟨by have := HK1.out; have := HK2.out; first | omega | exact Nat.le_refl _⟩, ⟨by (with_reducible repeat (first | apply Kd.R_alloc | apply Kd.R_drewN | apply Kd.R_drew)); exact HO_3.out⟩, ⟨by repeat (first | (with_reducible first | exact HB.out | apply below_alloc | apply pw_below_drewN | apply below_drew1) | exact HB.out)⟩⟩
                  · rw [if_neg c9] at H
                    have c9b0 : decide (x5_2 < ((rdOf ByteArray.empty t115 x4_1).size : Int)) = false := decide_eq_false c9
                    clear c9
                    have H' := Aside0.mk H
                    clear H
                    have p118 : 0 ≤ (x4_1 : Int) := of_decide_eq_true (by first | (with_reducible assumption) | assumption)
                    have q118 : x4_1 < (t115.length : Int) := of_decide_eq_true (by first | (with_reducible assumption) | assumption)
                    obtain ⟨ad118, e118, hx118_0⟩ := Kd.at_string (Kd.R_reads' HO_3.out).2.2 x4_1 p118 q118
                    cases e118
                    replace p118 := eq_true p118
                    replace q118 := eq_true q118
                    go_wp2
                    go_meet
                    case rel => exact ⟨_, (false), (by first | rfl | (simp; done) | (simp [*]; done)), H', ⟨by have := HK1.out; have := HK2.out; first | omega | exact Nat.le_refl _⟩, ⟨by (with_reducible repeat (first | apply Kd.R_alloc | apply Kd.R_drewN | apply Kd.R_drew)); exact HO_3.out⟩, ⟨by repeat (first | (with_reducible first | exact HB.out | apply below_alloc | apply pw_below_drewN | apply below_drew1) | exact HB.out)⟩⟩
                · rw [if_neg c8] at H
                  exact absurd H (by simp)
              · rw [if_neg c7] at H
                exact absurd H (by simp)
            case rest =>
              clear HC6
              try clear p1
              try clear q1
              try clear hx1
              try clear p2
              try clear c3
              try clear c4
              try clear c4b0
              try clear c7
              try clear c7b0
              try clear c8
              try clear c8b0
              try clear c9
              try clear c9b0
              try clear hx118_0
              try clear hx119_0
              try clear p118
              try clear p119
              try clear p2
              try clear q118
              try clear q119
              obtain ⟨kq, x28_5, rfl, HA, HJ5, HO_3, HB⟩ := hcut
              cases kq with
              | zero => exact absurd HA.out (by simp [laws_tame.j2])
              | succ kj5 =>
                have H := HA.out
                clear HA
                simp only [laws_tame.j2] at H
                by_cases c10 : x28_5 = true
                · subst c10
                  have H1 : (if 0 ≤ x4_1 then (if x4_1 < (t115.length : Int) then (if 0 ≤ x5_2 then (if x5_2 < ((rdOf ByteArray.empty t115 x4_1).size : Int) then (if (bt (rdOf ByteArray.empty t115 x4_1) x5_2) = 42 then (some false) else (if (bt (rdOf ByteArray.empty t115 x4_1) x5_2) = 62 then (some false) else (laws_tame.l1 kj5 t115 x4_1 (wrap64 (x5_2 + 1))))) else (none)) else (none)) else (none)) else (none)) = some r := by rw [if_pos rfl] at H; exact H
                  clear H
                  have H := H1
                  clear H1
                  by_cases c11 : 0 ≤ x4_1
                  · rw [if_pos c11] at H
                    have c11b0 : decide (0 ≤ x4_1) = true := decide_eq_true c11
                    clear c11
                    by_cases c12 : x4_1 < (t115.length : Int)
                    · rw [if_pos c12] at H
                      have c12b0 : decide (x4_1 < (t115.length : Int)) = true := decide_eq_true c12
                      clear c12
                      by_cases c13 : 0 ≤ x5_2
                      · rw [if_pos c13] at H
                        have c13b0 : decide (0 ≤ x5_2) = true := decide_eq_true c13
                        clear c13
                        by_cases c14 : x5_2 < ((rdOf ByteArray.empty t115 x4_1).size : Int)
                        · rw [if_pos c14] at H
                          have c14b0 : decide (x5_2 < ((rdOf ByteArray.empty t115 x4_1).size : Int)) = true := decide_eq_true c14
                          clear c14
                          by_cases c16 : (bt (rdOf ByteArray.empty t115 x4_1) x5_2) = 42
                          · rw [if_pos c16] at H
                            have c16b0 : ((bt (rdOf ByteArray.empty t115 x4_1) x5_2) == 42) = true := beq_iff_eq.mpr c16
                            have c16b1 : ((bt (rdOf ByteArray.empty t115 x4_1) x5_2) != 42) = false := bne_eq_false_iff_eq.mpr c16
                            clear c16
                            obtain rfl := Option.some.inj H
                            have p120 : 0 ≤ (x4_1 : Int) := of_decide_eq_true (by first | (with_reducible assumption) | assumption)
                            have q120 : x4_1 < (t115.length : Int) := of_decide_eq_true (by first | (with_reducible assumption) | assumption)
                            obtain ⟨ad120, e120, hx120_0⟩ := Kd.at_string (Kd.R_reads' HO_3.out).2.2 x4_1 p120 q120
                            cases e120
                            replace p120 := eq_true p120
                            replace q120 := eq_true q120
                            have p15 : 0 ≤ (x5_2 : Int) := of_decide_eq_true (by first | (with_reducible assumption) | assumption)
                            have q15 : x5_2 < ((rdOf ByteArray.empty t115 x4_1).size : Int) := of_decide_eq_true (by first | (with_reducible assumption) | assumption)
                            have hx15 := bt_at (rdOf ByteArray.empty t115 x4_1) x5_2
                            replace p15 := eq_true p15
                            replace q15 := eq_true q15
                            go_wp2
                            go_ret
                            exact ⟨by first | rfl | (simp [errW_none, errW_some] <;> rfl) | (simp [*, errW_none, errW_some] <;> rfl), by repeat (first | (with_reducible first | exact HB.out | apply below_alloc | apply pw_below_drewN | apply below_drew1) | exact HB.out)⟩
                          · rw [if_neg c16] at H
                            have c16b0 : ((bt (rdOf ByteArray.empty t115 x4_1) x5_2) == 42) = false := beq_eq_false_iff_ne.mpr c16
                            have c16b1 : ((bt (rdOf ByteArray.empty t115 x4_1) x5_2) != 42) = true := bne_iff_ne.mpr c16
                            by_cases c18 : (bt (rdOf ByteArray.empty t115 x4_1) x5_2) = 62
                            · rw [if_pos c18] at H
                              have c18b0 : ((bt (rdOf ByteArray.empty t115 x4_1) x5_2) == 62) = true := beq_iff_eq.mpr c18
                              have c18b1 : ((bt (rdOf ByteArray.empty t115 x4_1) x5_2) != 62) = false := bne_eq_false_iff_eq.mpr c18
                              clear c18
                              obtain rfl := Option.some.inj H
                              have p120 : 0 ≤ (x4_1 : Int) := of_decide_eq_true (by first | (with_reducible assumption) | assumption)
                              have q120 : x4_1 < (t115.length : Int) := of_decide_eq_true (by first | (with_reducible assumption) | assumption)
                              obtain ⟨ad120, e120, hx120_0⟩ := Kd.at_string (Kd.R_reads' HO_3.out).2.2 x4_1 p120 q120
                              cases e120
                              replace p120 := eq_true p120
                              replace q120 := eq_true q120
                              have p15 : 0 ≤ (x5_2 : Int) := of_decide_eq_true (by first | (with_reducible assumption) | assumption)
                              have q15 : x5_2 < ((rdOf ByteArray.empty t115 x4_1).size : Int) := of_decide_eq_true (by first | (with_reducible assumption) | assumption)
                              have hx15 := bt_at (rdOf ByteArray.empty t115 x4_1) x5_2
                              replace p15 := eq_true p15
                              replace q15 := eq_true q15
                              have p121 : 0 ≤ (x4_1 : Int) := of_decide_eq_true (by first | (with_reducible assumption) | assumption)
                              have q121 : x4_1 < (t115.length : Int) := of_decide_eq_true (by first | (with_reducible assumption) | assumption)
                              obtain ⟨ad121, e121, hx121_0⟩ := Kd.at_string (Kd.R_reads' HO_3.out).2.2 x4_1 p121 q121
                              obtain rfl : ad120 = ad121 := (by injection e121)
                              replace p121 := eq_true p121
                              replace q121 := eq_true q121
                              have p17 : 0 ≤ (x5_2 : Int) := of_decide_eq_true (by first | (with_reducible assumption) | assumption)
                              have q17 : x5_2 < ((rdOf ByteArray.empty t115 x4_1).size : Int) := of_decide_eq_true (by first | (with_reducible assumption) | assumption)
                              have hx17 := bt_at (rdOf ByteArray.empty t115 x4_1) x5_2
                              replace p17 := eq_true p17
                              replace q17 := eq_true q17
                              go_wp2
                              go_ret
                              exact ⟨by first | rfl | (simp [errW_none, errW_some] <;> rfl) | (simp [*, errW_none, errW_some] <;> rfl), by repeat (first | (with_reducible first | exact HB.out | apply below_alloc | apply pw_below_drewN | apply below_drew1) | exact HB.out)⟩
                            · rw [if_neg c18] at H
                              have c18b0 : ((bt (rdOf ByteArray.empty t115 x4_1) x5_2) == 62) = false := beq_eq_false_iff_ne.mpr c18
                              have c18b1 : ((bt (rdOf ByteArray.empty t115 x4_1) x5_2) != 62) = true := bne_iff_ne.mpr c18
                              have H' := Aside0.mk H
                              clear H
                              have p120 : 0 ≤ (x4_1 : Int) := of_decide_eq_true (by first | (with_reducible assumption) | assumption)
                              have q120 : x4_1 < (t115.length : Int) := of_decide_eq_true (by first | (with_reducible assumption) | assumption)
                              obtain ⟨ad120, e120, hx120_0⟩ := Kd.at_string (Kd.R_reads' HO_3.out).2.2 x4_1 p120 q120
                              cases e120
                              replace p120 := eq_true p120
                              replace q120 := eq_true q120
                              have p15 : 0 ≤ (x5_2 : Int) := of_decide_eq_true (by first | (with_reducible assumption) | assumption)
                              have q15 : x5_2 < ((rdOf ByteArray.empty t115 x4_1).size : Int) := of_decide_eq_true (by first | (with_reducible assumption) | assumption)
                              have hx15 := bt_at (rdOf ByteArray.empty t115 x4_1) x5_2
                              replace p15 := eq_true p15
                              replace q15 := eq_true q15
                              have p121 : 0 ≤ (x4_1 : Int) := of_decide_eq_true (by first | (with_reducible assumption) | assumption)
                              have q121 : x4_1 < (t115.length : Int) := of_decide_eq_true (by first | (with_reducible assumption) | assumption)
                              obtain ⟨ad121, e121, hx121_0⟩ := Kd.at_string (Kd.R_reads' HO_3.out).2.2 x4_1 p121 q121
                              obtain rfl : ad120 = ad121 := (by injection e121)
                              replace p121 := eq_true p121
                              replace q121 := eq_true q121
                              have p17 : 0 ≤ (x5_2 : Int) := of_decide_eq_true (by first | (with_reducible assumption) | assumption)
                              have q17 : x5_2 < ((rdOf ByteArray.empty t115 x4_1).size : Int) := of_decide_eq_true (by first | (with_reducible assumption) | assumption)
                              have hx17 := bt_at (rdOf ByteArray.empty t115 x4_1) x5_2
                              replace p17 := eq_true p17
                              replace q17 := eq_true q17
                              go_wp2
                              go_roundg kj5
                              case measure => have := HK1.out; have := HK2.out; have := HJ5.out; omega
                              case rel => exact ⟨(wrap64 (x5_2 + 1)), (by first | rfl | (simp; done) | (simp [*]; done)), H', ⟨by have := HK1.out; have := HK2.out; have := HJ5.out; omega⟩, ⟨by (with_reducible repeat (first | apply Kd.R_alloc | apply Kd.R_drewN | apply Kd.R_drew)); exact HO_3.out⟩, ⟨by repeat (first | (with_reducible first | exact HB.out | apply below_alloc | apply pw_below_drewN | apply below_drew1) | exact HB.out)⟩⟩
                        · rw [if_neg c14] at H
                          exact absurd H (by simp)
                      · rw [if_neg c13] at H
                        exact absurd H (by simp)
                    · rw [if_neg c12] at H
                      exact absurd H (by simp)
                  · rw [if_neg c11] at H
                    exact absurd H (by simp)
                · replace c10 := Bool.eq_false_iff.mpr c10
                  subst c10
                  have H1 : (laws_tame.l0 kj5 t115 (wrap64 (x4_1 + 1))) = some r := by rw [if_neg (show ¬ (false = true) by decide)] at H; exact H
                  clear H
                  have H := H1
                  clear H1
                  have H' := Aside0.mk H
                  clear H
                  go_wp2
                  go_roundg kj5
                  case measure => have := HK1.out; have := HK2.out; have := HJ5.out; omega
                  case rel => exact ⟨(wrap64 (x4_1 + 1)), (by first | rfl | (simp; done) | (simp [*]; done)), H', ⟨by have := HK1.out; have := HK2.out; have := HJ5.out; omega⟩, ⟨by (with_reducible repeat (first | apply Kd.R_alloc | apply Kd.R_drewN | apply Kd.R_drew)); exact HO_3.out⟩, ⟨by repeat (first | (with_reducible first | exact HB.out | apply below_alloc | apply pw_below_drewN | apply below_drew1) | exact HB.out)⟩⟩
      · rw [if_neg c4] at H
        have c4b0 : decide (x4_1 < (t115.length : Int)) = false := decide_eq_false c4
        clear c4
        obtain rfl := Option.some.inj H
        obtain ⟨Ao19, co19, eo19⟩ := Kd.R_slice HO_3.out
        subst eo19
        go_wp2
        go_ret
        exact ⟨by first | rfl | (simp [errW_none, errW_some] <;> rfl) | (simp [*, errW_none, errW_some] <;> rfl), by repeat (first | (with_reducible first | exact HB.out | apply below_alloc | apply pw_below_drewN | apply below_drew1) | exact HB.out)⟩

/-! ### laws_valid: function 13 -/
def laws_valid.f (k : Nat) (a0 : ByteArray) : Option (Bool) := (laws_clean.f k a0).bind fun t122 => (if t122 = true then ((spec_Valid.f k a0).bind fun t123 => (if t123 = true then ((laws_tame.f k a0).bind fun t124 => (some t124)) else (some false))) else (some false))
theorem laws_valid.mono : ∀ a0 k, LeO (laws_valid.f k a0) (laws_valid.f (k + 1) a0) := by
  intro a0 k
  unfold laws_valid.f
  repeat' first
      | (with_reducible exact laws_clean.mono _ _)
      | (with_reducible exact laws_tame.mono _ _)
      | (with_reducible exact spec_Valid.mono _ _)
      | (with_reducible exact LeO.refl _)
      | (with_reducible exact LeO.none _)
      | (with_reducible refine LeO.ite ?_ ?_)
      | (with_reducible refine LeO.bind ?_ (fun _ => ?_))
      | exact laws_clean.mono _ _
      | exact laws_tame.mono _ _
      | exact spec_Valid.mono _ _
      | exact LeO.none _
      | refine LeO.ite ?_ ?_
      | refine LeO.bind ?_ (fun _ => ?_)
set_option maxHeartbeats 8000000 in
set_option maxRecDepth 100000 in
theorem laws_valid.calls (k : Nat) (a0 : ByteArray) (r : Bool) (w : World) (h : laws_valid.f k a0 = some r) :
    Calls Try.prog 13 #[.string a0] w fun e w' => e = .returned (.bool r) ∧ Below w.heap.size w w' := by
  have HB := Aside0.mk (Below.refl w.heap.size w)
  have H : ((laws_clean.f k a0).bind fun t122 => (if t122 = true then ((spec_Valid.f k a0).bind fun t123 => (if t123 = true then ((laws_tame.f k a0).bind fun t124 => (some t124)) else (some false))) else (some false))) = some r := h
  clear h
  replace H := Option.bind_eq_some_iff.mp H
  obtain ⟨t122, A20, H⟩ := H
  replace H : (if t122 = true then ((spec_Valid.f k a0).bind fun t123 => (if t123 = true then ((laws_tame.f k a0).bind fun t124 => (some t124)) else (some false))) else (some false)) = some r := H
  have A2 := Aside0.mk A20
  clear A20
  by_cases c3 : t122 = true
  · subst c3
    have H1 : ((spec_Valid.f k a0).bind fun t123 => (if t123 = true then ((laws_tame.f k a0).bind fun t124 => (some t124)) else (some false))) = some r := by rw [if_pos rfl] at H; exact H
    clear H
    have H := H1
    clear H1
    replace H := Option.bind_eq_some_iff.mp H
    obtain ⟨t123, A40, H⟩ := H
    replace H : (if t123 = true then ((laws_tame.f k a0).bind fun t124 => (some t124)) else (some false)) = some r := H
    have A4 := Aside0.mk A40
    clear A40
    by_cases c5 : t123 = true
    · subst c5
      have H1 : ((laws_tame.f k a0).bind fun t124 => (some t124)) = some r := by rw [if_pos rfl] at H; exact H
      clear H
      have H := H1
      clear H1
      replace H := Option.bind_eq_some_iff.mp H
      obtain ⟨t124, A60, H⟩ := H
      replace H : (some t124) = some r := H
      have A6 := Aside0.mk A60
      clear A60
      obtain rfl := Option.some.inj H
      go_enter Try.func13, Try.ntmps13
      go_wp2_with (first | ((with_reducible refine gate_callee (f := 27) rfl ?_); refine goesL_ (some 4) rfl rfl Try.func27 (by kernel_rfl) rfl #[.string a0] rfl (by (try simp only [List.map_toArray, List.map_cons, List.map_nil]); first | done | rfl | (simp only [List.length_drop, List.length_take]; rfl)) ?_; (with_reducible refine (laws_clean.calls k a0 true _ A2.out).mono ?_); rintro e w' ⟨rfl, ⟨nd, rfl⟩⟩; refine ⟨_, rfl, ?_⟩) | (go_at_call 22; (with_reducible refine (spec_Valid.calls k a0 true _ A4.out).mono ?_); rintro e w7 ⟨rfl, hb⟩; have n0_ := Aside0.mk (below_step (by repeat (first | (with_reducible first | exact HB.out | apply below_alloc | apply pw_below_drewN | apply below_drew1) | exact HB.out)) hb); clear HB; have HB := n0_; clear n0_; (try clear hb); (try clear hb2); (try clear hk); (try clear hi)) | (go_at_call 35; (with_reducible refine (laws_tame.calls k a0 t124 _ A6.out).mono ?_); rintro e w8 ⟨rfl, hb⟩; have n0_ := Aside0.mk (below_step (by repeat (first | (with_reducible first | exact HB.out | apply below_alloc | apply pw_below_drewN | apply below_drew1) | exact HB.out)) hb); clear HB; have HB := n0_; clear n0_; (try clear hb); (try clear hb2); (try clear hk); (try clear hi)))
      go_ret
      exact ⟨by first | rfl | (simp [errW_none, errW_some] <;> rfl) | (simp [*, errW_none, errW_some] <;> rfl), by repeat (first | (with_reducible first | exact HB.out | apply below_alloc | apply pw_below_drewN | apply below_drew1) | exact HB.out)⟩
    · replace c5 := Bool.eq_false_iff.mpr c5
      subst c5
      have H1 : (some false) = some r := by rw [if_neg (show ¬ (false = true) by decide)] at H; exact H
      clear H
      have H := H1
      clear H1
      obtain rfl := Option.some.inj H
      go_enter Try.func13, Try.ntmps13
      go_wp2_with (first | ((with_reducible refine gate_callee (f := 27) rfl ?_); refine goesL_ (some 4) rfl rfl Try.func27 (by kernel_rfl) rfl #[.string a0] rfl (by (try simp only [List.map_toArray, List.map_cons, List.map_nil]); first | done | rfl | (simp only [List.length_drop, List.length_take]; rfl)) ?_; (with_reducible refine (laws_clean.calls k a0 true _ A2.out).mono ?_); rintro e w' ⟨rfl, ⟨nd, rfl⟩⟩; refine ⟨_, rfl, ?_⟩) | (go_at_call 22; (with_reducible refine (spec_Valid.calls k a0 false _ A4.out).mono ?_); rintro e w9 ⟨rfl, hb⟩; have n0_ := Aside0.mk (below_step (by repeat (first | (with_reducible first | exact HB.out | apply below_alloc | apply pw_below_drewN | apply below_drew1) | exact HB.out)) hb); clear HB; have HB := n0_; clear n0_; (try clear hb); (try clear hb2); (try clear hk); (try clear hi)))
      go_ret
      exact ⟨by first | rfl | (simp [errW_none, errW_some] <;> rfl) | (simp [*, errW_none, errW_some] <;> rfl), by repeat (first | (with_reducible first | exact HB.out | apply below_alloc | apply pw_below_drewN | apply below_drew1) | exact HB.out)⟩
  · replace c3 := Bool.eq_false_iff.mpr c3
    subst c3
    have H1 : (some false) = some r := by rw [if_neg (show ¬ (false = true) by decide)] at H; exact H
    clear H
    have H := H1
    clear H1
    obtain rfl := Option.some.inj H
    go_enter Try.func13, Try.ntmps13
    go_wp2_with (first | ((with_reducible refine gate_callee (f := 27) rfl ?_); refine goesL_ (some 4) rfl rfl Try.func27 (by kernel_rfl) rfl #[.string a0] rfl (by (try simp only [List.map_toArray, List.map_cons, List.map_nil]); first | done | rfl | (simp only [List.length_drop, List.length_take]; rfl)) ?_; (with_reducible refine (laws_clean.calls k a0 false _ A2.out).mono ?_); rintro e w' ⟨rfl, ⟨nd, rfl⟩⟩; refine ⟨_, rfl, ?_⟩))
    go_ret
    exact ⟨by first | rfl | (simp [errW_none, errW_some] <;> rfl) | (simp [*, errW_none, errW_some] <;> rfl), by repeat (first | (with_reducible first | exact HB.out | apply below_alloc | apply pw_below_drewN | apply below_drew1) | exact HB.out)⟩

/-! ### server_tokenAt: function 53 -/
def server_tokenAt.l0 : Nat → ByteArray → Int → Int → Int → Int → Option (ByteArray)
  | 0, _, _, _, _, _ => none
  | k + 1, x0, x1, x5, x6, x7 => if x7 < (x0.size : Int) then (if 0 ≤ x7 then (if (bt x0 x7) = 46 then (if x5 = x1 then (if 0 ≤ x6 then (if x6 ≤ x7 then (if x7 ≤ (x0.size : Int) then (some (x0.extract (x6 : Int).toNat (x7 : Int).toNat)) else (none)) else (none)) else (none)) else (server_tokenAt.l0 k x0 x1 ((x5 + 1) % 256) (wrap64 (x7 + 1)) (wrap64 (x7 + 1)))) else (server_tokenAt.l0 k x0 x1 x5 x6 (wrap64 (x7 + 1)))) else (none)) else (if x5 = x1 then (if 0 ≤ x6 then (if x6 ≤ (x0.size : Int) then (some (x0.extract (x6 : Int).toNat x0.size)) else (none)) else (none)) else (some (⟨#[]⟩ : ByteArray)))
def server_tokenAt.f (k : Nat) (a0 : ByteArray) (a1 : Int) : Option (ByteArray) := server_tokenAt.l0 k a0 a1 1 0 0
theorem server_tokenAt.mono_l : ∀ k, (∀ y0 y1 y2 y3 y4, LeO (server_tokenAt.l0 k y0 y1 y2 y3 y4) (server_tokenAt.l0 (k + 1) y0 y1 y2 y3 y4))
  | 0 => fun _ _ _ _ _ r h => by simp [server_tokenAt.l0] at h
  | k + 1 => by
    have ih0 := server_tokenAt.mono_l k
    · intro y0 y1 y2 y3 y4
      unfold server_tokenAt.l0
      repeat' first
      | (with_reducible exact ih0 _ _ _ _ _)
      | (with_reducible exact LeO.refl _)
      | (with_reducible exact LeO.none _)
      | (with_reducible refine LeO.ite ?_ ?_)
      | (with_reducible refine LeO.bind ?_ (fun _ => ?_))
      | exact ih0 _ _ _ _ _
      | exact LeO.none _
      | refine LeO.ite ?_ ?_
      | refine LeO.bind ?_ (fun _ => ?_)
theorem server_tokenAt.mono : ∀ a0 a1 k, LeO (server_tokenAt.f k a0 a1) (server_tokenAt.f (k + 1) a0 a1) := by
  intro a0 a1 k
  have ih0 := server_tokenAt.mono_l k
  unfold server_tokenAt.f
  repeat' first
      | (with_reducible exact ih0 _ _ _ _ _)
      | (with_reducible exact LeO.refl _)
      | (with_reducible exact LeO.none _)
      | (with_reducible refine LeO.ite ?_ ?_)
      | (with_reducible refine LeO.bind ?_ (fun _ => ?_))
      | exact ih0 _ _ _ _ _
      | exact LeO.none _
      | refine LeO.ite ?_ ?_
      | refine LeO.bind ?_ (fun _ => ?_)
set_option maxHeartbeats 8000000 in
set_option maxRecDepth 100000 in
theorem server_tokenAt.calls (k : Nat) (a0 : ByteArray) (a1 : Int) (r : ByteArray) (w : World) (h : server_tokenAt.f k a0 a1 = some r) :
    Calls Try.prog 53 #[.string a0, .int .u8 a1] w fun e w' => e = .returned (.string r) ∧ Drawn0 w w' := by
  have H : (server_tokenAt.l0 k a0 a1 1 0 0) = some r := h
  clear h
  have H' := Aside0.mk H
  clear H
  go_enter Try.func53, Try.ntmps53
  go_wp2
  go_loopg [5, 6, 7] k (fun kq v5 v6 v7 w' => ∃ (x5_1 : Int) (x6_1 : Int) (x7_1 : Int), v5 = .int .u8 x5_1 ∧ v6 = .int .i64 x6_1 ∧ v7 = .int .i64 x7_1 ∧ Aside0 (server_tokenAt.l0 kq a0 a1 x5_1 x6_1 x7_1 = some r) ∧ Aside0 (kq ≤ k) ∧ Drawn0 w w')
  case atStart => exact ⟨(1), (0), (0), (by first | rfl | (simp; done) | (simp [*]; done)), (by first | rfl | (simp; done) | (simp [*]; done)), (by first | rfl | (simp; done) | (simp [*]; done)), H', ⟨Nat.le_refl _⟩, by repeat (first | exact Drawn0.refl _ | apply Drawn0.step)⟩
  case round =>
    clear H'
    try clear p2
    obtain ⟨x5_1, x6_1, x7_1, rfl, rfl, rfl, HA, HK1, ⟨m1, rfl⟩⟩ := hrel
    cases gk with
    | zero => exact absurd HA.out (by simp [server_tokenAt.l0])
    | succ k1 =>
      have H := HA.out
      clear HA
      simp only [server_tokenAt.l0] at H
      by_cases c3 : x7_1 < (a0.size : Int)
      · rw [if_pos c3] at H
        have c3b0 : decide (x7_1 < (a0.size : Int)) = true := decide_eq_true c3
        clear c3
        by_cases c4 : 0 ≤ x7_1
        · rw [if_pos c4] at H
          have c4b0 : decide (0 ≤ x7_1) = true := decide_eq_true c4
          clear c4
          by_cases c6 : (bt a0 x7_1) = 46
          · rw [if_pos c6] at H
            have c6b0 : ((bt a0 x7_1) == 46) = true := beq_iff_eq.mpr c6
            have c6b1 : ((bt a0 x7_1) != 46) = false := bne_eq_false_iff_eq.mpr c6
            clear c6
            by_cases c7 : x5_1 = a1
            · rw [if_pos c7] at H
              have c7b0 : (x5_1 == a1) = true := beq_iff_eq.mpr c7
              have c7b1 : (x5_1 != a1) = false := bne_eq_false_iff_eq.mpr c7
              clear c7
              by_cases c8 : 0 ≤ x6_1
              · rw [if_pos c8] at H
                have c8b0 := eq_true c8
                have c8b1 : decide (0 ≤ x6_1) = true := decide_eq_true c8
                clear c8
                by_cases c9 : x6_1 ≤ x7_1
                · rw [if_pos c9] at H
                  have c9b0 := eq_true c9
                  have c9b1 : decide (x6_1 ≤ x7_1) = true := decide_eq_true c9
                  clear c9
                  by_cases c10 : x7_1 ≤ (a0.size : Int)
                  · rw [if_pos c10] at H
                    have c10b0 := eq_true c10
                    have c10b1 : decide (x7_1 ≤ (a0.size : Int)) = true := decide_eq_true c10
                    clear c10
                    obtain rfl := Option.some.inj H
                    have p5 : 0 ≤ (x7_1 : Int) := of_decide_eq_true (by first | (with_reducible assumption) | assumption)
                    have q5 : x7_1 < (a0.size : Int) := of_decide_eq_true (by first | (with_reducible assumption) | assumption)
                    have hx5 := bt_at a0 x7_1
                    replace p5 := eq_true p5
                    replace q5 := eq_true q5
                    go_wp2
                    go_ret
                    exact ⟨by first | rfl | (simp; done) | (simp [*]; done), by repeat (first | exact Drawn0.refl _ | apply Drawn0.step)⟩
                  · rw [if_neg c10] at H
                    exact absurd H (by simp)
                · rw [if_neg c9] at H
                  exact absurd H (by simp)
              · rw [if_neg c8] at H
                exact absurd H (by simp)
            · rw [if_neg c7] at H
              have c7b0 : (x5_1 == a1) = false := beq_eq_false_iff_ne.mpr c7
              have c7b1 : (x5_1 != a1) = true := bne_iff_ne.mpr c7
              have H' := Aside0.mk H
              clear H
              have p5 : 0 ≤ (x7_1 : Int) := of_decide_eq_true (by first | (with_reducible assumption) | assumption)
              have q5 : x7_1 < (a0.size : Int) := of_decide_eq_true (by first | (with_reducible assumption) | assumption)
              have hx5 := bt_at a0 x7_1
              replace p5 := eq_true p5
              replace q5 := eq_true q5
              go_wp2
              go_roundg k1
              case measure => have := HK1.out; omega
              case rel => exact ⟨((x5_1 + 1) % 256), (wrap64 (x7_1 + 1)), (wrap64 (x7_1 + 1)), (by first | rfl | (simp; done) | (simp [*]; done)), (by first | rfl | (simp; done) | (simp [*]; done)), (by first | rfl | (simp; done) | (simp [*]; done)), H', ⟨by have := HK1.out; omega⟩, by repeat (first | exact Drawn0.refl _ | apply Drawn0.step)⟩
          · rw [if_neg c6] at H
            have c6b0 : ((bt a0 x7_1) == 46) = false := beq_eq_false_iff_ne.mpr c6
            have c6b1 : ((bt a0 x7_1) != 46) = true := bne_iff_ne.mpr c6
            have H' := Aside0.mk H
            clear H
            have p5 : 0 ≤ (x7_1 : Int) := of_decide_eq_true (by first | (with_reducible assumption) | assumption)
            have q5 : x7_1 < (a0.size : Int) := of_decide_eq_true (by first | (with_reducible assumption) | assumption)
            have hx5 := bt_at a0 x7_1
            replace p5 := eq_true p5
            replace q5 := eq_true q5
            go_wp2
            go_roundg k1
            case measure => have := HK1.out; omega
            case rel => exact ⟨(x5_1), (x6_1), (wrap64 (x7_1 + 1)), (by first | rfl | (simp; done) | (simp [*]; done)), (by first | rfl | (simp; done) | (simp [*]; done)), (by first | rfl | (simp; done) | (simp [*]; done)), H', ⟨by have := HK1.out; omega⟩, by repeat (first | exact Drawn0.refl _ | apply Drawn0.step)⟩
        · rw [if_neg c4] at H
          exact absurd H (by simp)
      · rw [if_neg c3] at H
        have c3b0 : decide (x7_1 < (a0.size : Int)) = false := decide_eq_false c3
        clear c3
        by_cases c11 : x5_1 = a1
        · rw [if_pos c11] at H
          have c11b0 : (x5_1 == a1) = true := beq_iff_eq.mpr c11
          have c11b1 : (x5_1 != a1) = false := bne_eq_false_iff_eq.mpr c11
          clear c11
          by_cases c12 : 0 ≤ x6_1
          · rw [if_pos c12] at H
            have c12b0 := eq_true c12
            have c12b1 : decide (0 ≤ x6_1) = true := decide_eq_true c12
            clear c12
            by_cases c13 : x6_1 ≤ (a0.size : Int)
            · rw [if_pos c13] at H
              have c13b0 := eq_true c13
              have c13b1 : decide (x6_1 ≤ (a0.size : Int)) = true := decide_eq_true c13
              clear c13
              obtain rfl := Option.some.inj H
              go_wp2
              go_ret
              exact ⟨by first | rfl | (simp; done) | (simp [*]; done), by repeat (first | exact Drawn0.refl _ | apply Drawn0.step)⟩
            · rw [if_neg c13] at H
              exact absurd H (by simp)
          · rw [if_neg c12] at H
            exact absurd H (by simp)
        · rw [if_neg c11] at H
          have c11b0 : (x5_1 == a1) = false := beq_eq_false_iff_ne.mpr c11
          have c11b1 : (x5_1 != a1) = true := bne_iff_ne.mpr c11
          obtain rfl := Option.some.inj H
          go_wp2
          go_ret
          exact ⟨by first | rfl | (simp; done) | (simp [*]; done), by repeat (first | exact Drawn0.refl _ | apply Drawn0.step)⟩

/-! ### server_TokenAt: function 36 -/
def server_TokenAt.f (k : Nat) (a0 : ByteArray) (a1 : Int) : Option (ByteArray) := (server_tokenAt.f k a0 a1).bind fun t125 => (some t125)
theorem server_TokenAt.mono : ∀ a0 a1 k, LeO (server_TokenAt.f k a0 a1) (server_TokenAt.f (k + 1) a0 a1) := by
  intro a0 a1 k
  unfold server_TokenAt.f
  repeat' first
      | (with_reducible exact server_tokenAt.mono _ _ _)
      | (with_reducible exact LeO.refl _)
      | (with_reducible exact LeO.none _)
      | (with_reducible refine LeO.ite ?_ ?_)
      | (with_reducible refine LeO.bind ?_ (fun _ => ?_))
      | exact server_tokenAt.mono _ _ _
      | exact LeO.none _
      | refine LeO.ite ?_ ?_
      | refine LeO.bind ?_ (fun _ => ?_)
set_option maxHeartbeats 8000000 in
set_option maxRecDepth 100000 in
theorem server_TokenAt.calls (k : Nat) (a0 : ByteArray) (a1 : Int) (r : ByteArray) (w : World) (h : server_TokenAt.f k a0 a1 = some r) :
    Calls Try.prog 36 #[.string a0, .int .u8 a1] w fun e w' => e = .returned (.string r) ∧ Drawn0 w w' := by
  have H : ((server_tokenAt.f k a0 a1).bind fun t125 => (some t125)) = some r := h
  clear h
  replace H := Option.bind_eq_some_iff.mp H
  obtain ⟨t125, A30, H⟩ := H
  replace H : (some t125) = some r := H
  have A3 := Aside0.mk A30
  clear A30
  obtain rfl := Option.some.inj H
  go_enter Try.func36, Try.ntmps36
  go_wp2_with (first | ((with_reducible refine gate_callee (f := 53) rfl ?_); refine goesL_ (some 7) rfl rfl Try.func53 (by kernel_rfl) rfl #[.string a0, .int .u8 a1] rfl (by (try simp only [List.map_toArray, List.map_cons, List.map_nil]); first | done | rfl | (simp only [List.length_drop, List.length_take]; rfl)) ?_; (with_reducible refine (server_tokenAt.calls k a0 a1 t125 _ A3.out).mono ?_); rintro e w' ⟨rfl, ⟨nd, rfl⟩⟩; refine ⟨_, rfl, ?_⟩))
  go_ret
  exact ⟨by first | rfl | (simp; done) | (simp [*]; done), by repeat (first | exact Drawn0.refl _ | apply Drawn0.step)⟩

/-! ### impl_TokenAt: function 14 -/
def impl_TokenAt.f (k : Nat) (a0 : ByteArray) (a1 : Int) : Option (ByteArray) := (server_TokenAt.f k a0 ((a1) % 256)).bind fun t126 => (some t126)
theorem impl_TokenAt.mono : ∀ a0 a1 k, LeO (impl_TokenAt.f k a0 a1) (impl_TokenAt.f (k + 1) a0 a1) := by
  intro a0 a1 k
  unfold impl_TokenAt.f
  repeat' first
      | (with_reducible exact server_TokenAt.mono _ _ _)
      | (with_reducible exact LeO.refl _)
      | (with_reducible exact LeO.none _)
      | (with_reducible refine LeO.ite ?_ ?_)
      | (with_reducible refine LeO.bind ?_ (fun _ => ?_))
      | exact server_TokenAt.mono _ _ _
      | exact LeO.none _
      | refine LeO.ite ?_ ?_
      | refine LeO.bind ?_ (fun _ => ?_)
set_option maxHeartbeats 8000000 in
set_option maxRecDepth 100000 in
theorem impl_TokenAt.calls (k : Nat) (a0 : ByteArray) (a1 : Int) (r : ByteArray) (w : World) (h : impl_TokenAt.f k a0 a1 = some r) :
    Calls Try.prog 14 #[.string a0, .int .i64 a1] w fun e w' => e = .returned (.string r) ∧ Drawn0 w w' := by
  have H : ((server_TokenAt.f k a0 ((a1) % 256)).bind fun t126 => (some t126)) = some r := h
  clear h
  replace H := Option.bind_eq_some_iff.mp H
  obtain ⟨t126, A30, H⟩ := H
  replace H : (some t126) = some r := H
  have A3 := Aside0.mk A30
  clear A30
  obtain rfl := Option.some.inj H
  go_enter Try.func14, Try.ntmps14
  go_wp2_with (first | ((with_reducible refine gate_callee (f := 36) rfl ?_); refine goesL_ (some 8) rfl rfl Try.func36 (by kernel_rfl) rfl #[.string a0, .int .u8 ((a1) % 256)] rfl (by (try simp only [List.map_toArray, List.map_cons, List.map_nil]); first | done | rfl | (simp only [List.length_drop, List.length_take]; rfl)) ?_; (with_reducible refine (server_TokenAt.calls k a0 ((a1) % 256) t126 _ A3.out).mono ?_); rintro e w' ⟨rfl, ⟨nd, rfl⟩⟩; refine ⟨_, rfl, ?_⟩))
  go_ret
  exact ⟨by first | rfl | (simp; done) | (simp [*]; done), by repeat (first | exact Drawn0.refl _ | apply Drawn0.step)⟩

/-! ### spec_NumTokens: function 16 -/
def spec_NumTokens.f (k : Nat) (a0 : ByteArray) : Option (Int) := if a0.toList = ([] : List UInt8) then (some 0) else ((spec_Tokens.f k a0).bind fun t127 => (some (t127.length : Int)))
theorem spec_NumTokens.mono : ∀ a0 k, LeO (spec_NumTokens.f k a0) (spec_NumTokens.f (k + 1) a0) := by
  intro a0 k
  unfold spec_NumTokens.f
  repeat' first
      | (with_reducible exact spec_Tokens.mono _ _)
      | (with_reducible exact LeO.refl _)
      | (with_reducible exact LeO.none _)
      | (with_reducible refine LeO.ite ?_ ?_)
      | (with_reducible refine LeO.bind ?_ (fun _ => ?_))
      | exact spec_Tokens.mono _ _
      | exact LeO.none _
      | refine LeO.ite ?_ ?_
      | refine LeO.bind ?_ (fun _ => ?_)
set_option maxHeartbeats 8000000 in
set_option maxRecDepth 100000 in
theorem spec_NumTokens.calls (k : Nat) (a0 : ByteArray) (r : Int) (w : World) (h : spec_NumTokens.f k a0 = some r) :
    Calls Try.prog 16 #[.string a0] w fun e w' => e = .returned (.int .i64 r) ∧ Below w.heap.size w w' := by
  have HB := Aside0.mk (Below.refl w.heap.size w)
  have H : (if a0.toList = ([] : List UInt8) then (some 0) else ((spec_Tokens.f k a0).bind fun t127 => (some (t127.length : Int)))) = some r := h
  clear h
  by_cases c2 : a0.toList = ([] : List UInt8)
  · rw [if_pos c2] at H
    have c2b0 : (a0.toList == ([] : List UInt8)) = true := beq_iff_eq.mpr c2
    have c2b1 : (a0.toList != ([] : List UInt8)) = false := bne_eq_false_iff_eq.mpr c2
    clear c2
    obtain rfl := Option.some.inj H
    go_enter Try.func16, Try.ntmps16
    go_wp2
    go_ret
    exact ⟨by first | rfl | (simp [errW_none, errW_some] <;> rfl) | (simp [*, errW_none, errW_some] <;> rfl), by repeat (first | (with_reducible first | exact HB.out | apply below_alloc | apply pw_below_drewN | apply below_drew1) | exact HB.out)⟩
  · rw [if_neg c2] at H
    have c2b0 : (a0.toList == ([] : List UInt8)) = false := beq_eq_false_iff_ne.mpr c2
    have c2b1 : (a0.toList != ([] : List UInt8)) = true := bne_iff_ne.mpr c2
    replace H := Option.bind_eq_some_iff.mp H
    obtain ⟨t127, A30, H⟩ := H
    replace H : (some (t127.length : Int)) = some r := H
    have A3 := Aside0.mk A30
    clear A30
    obtain rfl := Option.some.inj H
    go_enter Try.func16, Try.ntmps16
    go_wp2_with (first | ((with_reducible refine gate_callee (f := 37) rfl ?_); refine goesL_ (some 6) rfl rfl Try.func37 (by kernel_rfl) rfl #[.string a0] rfl (by (try simp only [List.map_toArray, List.map_cons, List.map_nil]); first | done | rfl | (simp only [List.length_drop, List.length_take]; rfl)) ?_; (with_reducible refine (spec_Tokens.calls k a0 t127 _ A3.out).mono ?_); rintro e w4 ⟨v128, rfl, ho0, hb⟩; refine ⟨_, rfl, ?_⟩; have n0_ := Aside0.mk (Kd.R_lower ho0 (below_size (by repeat (first | (with_reducible first | exact HB.out | apply below_alloc | apply pw_below_drewN | apply below_drew1) | exact HB.out)))); have n1_ := Aside0.mk (below_step (by repeat (first | (with_reducible first | exact HB.out | apply below_alloc | apply pw_below_drewN | apply below_drew1) | exact HB.out)) hb); clear HB; have HO129 := n0_; have HB := n1_; clear n0_ n1_; (try clear hb); (try clear hb2); (try clear hk); (try clear hi); (try clear ho0); obtain ⟨Ao5, co5, eo5⟩ := Kd.R_slice HO129.out; subst eo5))
    go_ret
    exact ⟨by first | rfl | (simp [errW_none, errW_some] <;> rfl) | (simp [*, errW_none, errW_some] <;> rfl), by repeat (first | (with_reducible first | exact HB.out | apply below_alloc | apply pw_below_drewN | apply below_drew1) | exact HB.out)⟩

/-! ### server_numTokens: function 54 -/
def server_numTokens.l0 : Nat → ByteArray → Int → Int → Option (Int)
  | 0, _, _, _ => none
  | k + 1, x0, x3, x4 => if x4 < (x0.size : Int) then (if 0 ≤ x4 then (if (bt x0 x4) = 46 then (server_numTokens.l0 k x0 (wrap64 (x3 + 1)) (wrap64 (x4 + 1))) else (server_numTokens.l0 k x0 x3 (wrap64 (x4 + 1)))) else (none)) else (some (wrap64 (x3 + 1)))
def server_numTokens.f (k : Nat) (a0 : ByteArray) : Option (Int) := if (a0.size : Int) = 0 then (some 0) else (server_numTokens.l0 k a0 0 0)
theorem server_numTokens.mono_l : ∀ k, (∀ y0 y1 y2, LeO (server_numTokens.l0 k y0 y1 y2) (server_numTokens.l0 (k + 1) y0 y1 y2))
  | 0 => fun _ _ _ r h => by simp [server_numTokens.l0] at h
  | k + 1 => by
    have ih0 := server_numTokens.mono_l k
    · intro y0 y1 y2
      unfold server_numTokens.l0
      repeat' first
      | (with_reducible exact ih0 _ _ _)
      | (with_reducible exact LeO.refl _)
      | (with_reducible exact LeO.none _)
      | (with_reducible refine LeO.ite ?_ ?_)
      | (with_reducible refine LeO.bind ?_ (fun _ => ?_))
      | exact ih0 _ _ _
      | exact LeO.none _
      | refine LeO.ite ?_ ?_
      | refine LeO.bind ?_ (fun _ => ?_)
theorem server_numTokens.mono : ∀ a0 k, LeO (server_numTokens.f k a0) (server_numTokens.f (k + 1) a0) := by
  intro a0 k
  have ih0 := server_numTokens.mono_l k
  unfold server_numTokens.f
  repeat' first
      | (with_reducible exact ih0 _ _ _)
      | (with_reducible exact LeO.refl _)
      | (with_reducible exact LeO.none _)
      | (with_reducible refine LeO.ite ?_ ?_)
      | (with_reducible refine LeO.bind ?_ (fun _ => ?_))
      | exact ih0 _ _ _
      | exact LeO.none _
      | refine LeO.ite ?_ ?_
      | refine LeO.bind ?_ (fun _ => ?_)
set_option maxHeartbeats 8000000 in
set_option maxRecDepth 100000 in
theorem server_numTokens.calls (k : Nat) (a0 : ByteArray) (r : Int) (w : World) (h : server_numTokens.f k a0 = some r) :
    Calls Try.prog 54 #[.string a0] w fun e w' => e = .returned (.int .i64 r) ∧ Drawn0 w w' := by
  have H : (if (a0.size : Int) = 0 then (some 0) else (server_numTokens.l0 k a0 0 0)) = some r := h
  clear h
  by_cases c2 : (a0.size : Int) = 0
  · rw [if_pos c2] at H
    have c2b0 : ((a0.size : Int) == 0) = true := beq_iff_eq.mpr c2
    have c2b1 : ((a0.size : Int) != 0) = false := bne_eq_false_iff_eq.mpr c2
    clear c2
    obtain rfl := Option.some.inj H
    go_enter Try.func54, Try.ntmps54
    go_wp2
    go_ret
    exact ⟨by first | rfl | (simp; done) | (simp [*]; done), by repeat (first | exact Drawn0.refl _ | apply Drawn0.step)⟩
  · rw [if_neg c2] at H
    have c2b0 : ((a0.size : Int) == 0) = false := beq_eq_false_iff_ne.mpr c2
    have c2b1 : ((a0.size : Int) != 0) = true := bne_iff_ne.mpr c2
    have H' := Aside0.mk H
    clear H
    go_enter Try.func54, Try.ntmps54
    go_wp2
    go_loopg [3, 4] k (fun kq v3 v4 w' => ∃ (x3_1 : Int) (x4_1 : Int), v3 = .int .i64 x3_1 ∧ v4 = .int .i64 x4_1 ∧ Aside0 (server_numTokens.l0 kq a0 x3_1 x4_1 = some r) ∧ Aside0 (kq ≤ k) ∧ Drawn0 w w')
    case atStart => exact ⟨(0), (0), (by first | rfl | (simp; done) | (simp [*]; done)), (by first | rfl | (simp; done) | (simp [*]; done)), H', ⟨Nat.le_refl _⟩, by repeat (first | exact Drawn0.refl _ | apply Drawn0.step)⟩
    case round =>
      clear H'
      try clear c2
      try clear c2b0
      try clear c2b1
      try clear p2
      obtain ⟨x3_1, x4_1, rfl, rfl, HA, HK1, ⟨m1, rfl⟩⟩ := hrel
      cases gk with
      | zero => exact absurd HA.out (by simp [server_numTokens.l0])
      | succ k1 =>
        have H := HA.out
        clear HA
        simp only [server_numTokens.l0] at H
        by_cases c3 : x4_1 < (a0.size : Int)
        · rw [if_pos c3] at H
          have c3b0 : decide (x4_1 < (a0.size : Int)) = true := decide_eq_true c3
          clear c3
          by_cases c4 : 0 ≤ x4_1
          · rw [if_pos c4] at H
            have c4b0 : decide (0 ≤ x4_1) = true := decide_eq_true c4
            clear c4
            by_cases c6 : (bt a0 x4_1) = 46
            · rw [if_pos c6] at H
              have c6b0 : ((bt a0 x4_1) == 46) = true := beq_iff_eq.mpr c6
              have c6b1 : ((bt a0 x4_1) != 46) = false := bne_eq_false_iff_eq.mpr c6
              clear c6
              have H' := Aside0.mk H
              clear H
              have p5 : 0 ≤ (x4_1 : Int) := of_decide_eq_true (by first | (with_reducible assumption) | assumption)
              have q5 : x4_1 < (a0.size : Int) := of_decide_eq_true (by first | (with_reducible assumption) | assumption)
              have hx5 := bt_at a0 x4_1
              replace p5 := eq_true p5
              replace q5 := eq_true q5
              go_wp2
              go_roundg k1
              case measure => have := HK1.out; omega
              case rel => exact ⟨(wrap64 (x3_1 + 1)), (wrap64 (x4_1 + 1)), (by first | rfl | (simp; done) | (simp [*]; done)), (by first | rfl | (simp; done) | (simp [*]; done)), H', ⟨by have := HK1.out; omega⟩, by repeat (first | exact Drawn0.refl _ | apply Drawn0.step)⟩
            · rw [if_neg c6] at H
              have c6b0 : ((bt a0 x4_1) == 46) = false := beq_eq_false_iff_ne.mpr c6
              have c6b1 : ((bt a0 x4_1) != 46) = true := bne_iff_ne.mpr c6
              have H' := Aside0.mk H
              clear H
              have p5 : 0 ≤ (x4_1 : Int) := of_decide_eq_true (by first | (with_reducible assumption) | assumption)
              have q5 : x4_1 < (a0.size : Int) := of_decide_eq_true (by first | (with_reducible assumption) | assumption)
              have hx5 := bt_at a0 x4_1
              replace p5 := eq_true p5
              replace q5 := eq_true q5
              go_wp2
              go_roundg k1
              case measure => have := HK1.out; omega
              case rel => exact ⟨(x3_1), (wrap64 (x4_1 + 1)), (by first | rfl | (simp; done) | (simp [*]; done)), (by first | rfl | (simp; done) | (simp [*]; done)), H', ⟨by have := HK1.out; omega⟩, by repeat (first | exact Drawn0.refl _ | apply Drawn0.step)⟩
          · rw [if_neg c4] at H
            exact absurd H (by simp)
        · rw [if_neg c3] at H
          have c3b0 : decide (x4_1 < (a0.size : Int)) = false := decide_eq_false c3
          clear c3
          obtain rfl := Option.some.inj H
          go_wp2
          go_ret
          exact ⟨by first | rfl | (simp; done) | (simp [*]; done), by repeat (first | exact Drawn0.refl _ | apply Drawn0.step)⟩

/-! ### server_NumTokens: function 38 -/
def server_NumTokens.f (k : Nat) (a0 : ByteArray) : Option (Int) := (server_numTokens.f k a0).bind fun t130 => (some t130)
theorem server_NumTokens.mono : ∀ a0 k, LeO (server_NumTokens.f k a0) (server_NumTokens.f (k + 1) a0) := by
  intro a0 k
  unfold server_NumTokens.f
  repeat' first
      | (with_reducible exact server_numTokens.mono _ _)
      | (with_reducible exact LeO.refl _)
      | (with_reducible exact LeO.none _)
      | (with_reducible refine LeO.ite ?_ ?_)
      | (with_reducible refine LeO.bind ?_ (fun _ => ?_))
      | exact server_numTokens.mono _ _
      | exact LeO.none _
      | refine LeO.ite ?_ ?_
      | refine LeO.bind ?_ (fun _ => ?_)
set_option maxHeartbeats 8000000 in
set_option maxRecDepth 100000 in
theorem server_NumTokens.calls (k : Nat) (a0 : ByteArray) (r : Int) (w : World) (h : server_NumTokens.f k a0 = some r) :
    Calls Try.prog 38 #[.string a0] w fun e w' => e = .returned (.int .i64 r) ∧ Drawn0 w w' := by
  have H : ((server_numTokens.f k a0).bind fun t130 => (some t130)) = some r := h
  clear h
  replace H := Option.bind_eq_some_iff.mp H
  obtain ⟨t130, A20, H⟩ := H
  replace H : (some t130) = some r := H
  have A2 := Aside0.mk A20
  clear A20
  obtain rfl := Option.some.inj H
  go_enter Try.func38, Try.ntmps38
  go_wp2_with (first | ((with_reducible refine gate_callee (f := 54) rfl ?_); refine goesL_ (some 4) rfl rfl Try.func54 (by kernel_rfl) rfl #[.string a0] rfl (by (try simp only [List.map_toArray, List.map_cons, List.map_nil]); first | done | rfl | (simp only [List.length_drop, List.length_take]; rfl)) ?_; (with_reducible refine (server_numTokens.calls k a0 t130 _ A2.out).mono ?_); rintro e w' ⟨rfl, ⟨nd, rfl⟩⟩; refine ⟨_, rfl, ?_⟩))
  go_ret
  exact ⟨by first | rfl | (simp; done) | (simp [*]; done), by repeat (first | exact Drawn0.refl _ | apply Drawn0.step)⟩

end Go.Proofs.Ytaobajfdnidkfaa.PFnTokensBack
