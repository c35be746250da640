-- Written by hprint.py (this session's program, over the kit's printing program, with this session's own contracts in it). Not trusted: Lean checks it.
import Derived.Test.YtaobajfdnidkfaaPFnCollidex0
import Derived.Test.YtaobajfdnidkfaaPFnCollidex1
namespace Go.Proofs.Ytaobajfdnidkfaa.PFnCollide
open Go.RowKit Go.Proofs.YtaobajfdnidkfaaW.PrintWords Go.Proofs.YtaobajfdnidkfaaW.PrintLast Go.Proofs.YtaobajfdnidkfaaW.PrintMore
attribute [local go_sem] max2_int min2_int max_two min_two max_three min_three max_four min_four   -- for this text's walks alone
set_option linter.unusedVariables false
set_option linter.unusedSimpArgs false

/-! ### laws_tame: function 35 -/
mutual
def laws_tame.l0 : Nat → List ByteArray → Int → Option (Bool)
  | 0, _, _ => none
  | k + 1, x3, x4 => if x4 < (x3.length : Int) then (laws_tame.l1 k x3 x4 0) else (some true)
def laws_tame.l1 : Nat → List ByteArray → Int → Int → Option (Bool)
  | 0, _, _, _ => none
  | k + 1, x3, x4, x5 => if 0 ≤ x4 then (if x4 < (x3.length : Int) then (if x5 < ((rdOf ByteArray.empty x3 x4).size : Int) then (laws_tame.j2 k x3 x4 x5 (decide (((rdOf ByteArray.empty x3 x4).size : Int) > 1))) else (laws_tame.j2 k x3 x4 x5 false)) else (none)) else (none)
def laws_tame.j2 : Nat → List ByteArray → Int → Int → Bool → Option (Bool)
  | 0, _, _, _, _ => none
  | k + 1, x3, x4, x5, x28 => if x28 = true then (if 0 ≤ x4 then (if x4 < (x3.length : Int) then (if 0 ≤ x5 then (if x5 < ((rdOf ByteArray.empty x3 x4).size : Int) then (if (bt (rdOf ByteArray.empty x3 x4) x5) = 42 then (some false) else (if (bt (rdOf ByteArray.empty x3 x4) x5) = 62 then (some false) else (laws_tame.l1 k x3 x4 (wrap64 (x5 + 1))))) else (none)) else (none)) else (none)) else (none)) else (laws_tame.l0 k x3 (wrap64 (x4 + 1)))
end
def laws_tame.f (k : Nat) (a0 : ByteArray) : Option (Bool) := (spec_Tokens.f k a0).bind fun t115 => (laws_tame.l0 k t115 0)
theorem laws_tame.mono_l : ∀ k, (∀ y0 y1, LeO (laws_tame.l0 k y0 y1) (laws_tame.l0 (k + 1) y0 y1)) ∧ (∀ y0 y1 y2, LeO (laws_tame.l1 k y0 y1 y2) (laws_tame.l1 (k + 1) y0 y1 y2)) ∧ (∀ y0 y1 y2 y3, LeO (laws_tame.j2 k y0 y1 y2 y3) (laws_tame.j2 (k + 1) y0 y1 y2 y3))
  | 0 => ⟨fun _ _ r h => by simp [laws_tame.l0] at h, fun _ _ _ r h => by simp [laws_tame.l1] at h, fun _ _ _ _ r h => by simp [laws_tame.j2] at h⟩
  | k + 1 => by
    obtain ⟨ih0, ih1, ih2⟩ := laws_tame.mono_l k
    refine ⟨?_, ?_, ?_⟩
    · intro y0 y1
      unfold laws_tame.l0
      repeat' first
      | (with_reducible exact ih0 _ _)
      | (with_reducible exact ih1 _ _ _)
      | (with_reducible exact ih2 _ _ _ _)
      | (with_reducible exact spec_Tokens.mono _ _)
      | (with_reducible exact LeO.refl _)
      | (with_reducible exact LeO.none _)
      | (with_reducible refine LeO.ite ?_ ?_)
      | (with_reducible refine LeO.bind ?_ (fun _ => ?_))
      | exact ih0 _ _
      | exact ih1 _ _ _
      | exact ih2 _ _ _ _
      | exact spec_Tokens.mono _ _
      | exact LeO.none _
      | refine LeO.ite ?_ ?_
      | refine LeO.bind ?_ (fun _ => ?_)
    · intro y0 y1 y2
      unfold laws_tame.l1
      repeat' first
      | (with_reducible exact ih0 _ _)
      | (with_reducible exact ih1 _ _ _)
      | (with_reducible exact ih2 _ _ _ _)
      | (with_reducible exact spec_Tokens.mono _ _)
      | (with_reducible exact LeO.refl _)
      | (with_reducible exact LeO.none _)
      | (with_reducible refine LeO.ite ?_ ?_)
      | (with_reducible refine LeO.bind ?_ (fun _ => ?_))
      | exact ih0 _ _
      | exact ih1 _ _ _
      | exact ih2 _ _ _ _
      | exact spec_Tokens.mono _ _
      | exact LeO.none _
      | refine LeO.ite ?_ ?_
      | refine LeO.bind ?_ (fun _ => ?_)
    · intro y0 y1 y2 y3
      unfold laws_tame.j2
      repeat' first
      | (with_reducible exact ih0 _ _)
      | (with_reducible exact ih1 _ _ _)
      | (with_reducible exact ih2 _ _ _ _)
      | (with_reducible exact spec_Tokens.mono _ _)
      | (with_reducible exact LeO.refl _)
      | (with_reducible exact LeO.none _)
      | (with_reducible refine LeO.ite ?_ ?_)
      | (with_reducible refine LeO.bind ?_ (fun _ => ?_))
      | exact ih0 _ _
      | exact ih1 _ _ _
      | exact ih2 _ _ _ _
      | exact spec_Tokens.mono _ _
      | exact LeO.none _
      | refine LeO.ite ?_ ?_
      | refine LeO.bind ?_ (fun _ => ?_)
theorem laws_tame.mono : ∀ a0 k, LeO (laws_tame.f k a0) (laws_tame.f (k + 1) a0) := by
  intro a0 k
  obtain ⟨ih0, ih1, ih2⟩ := laws_tame.mono_l k
  unfold laws_tame.f
  repeat' first
      | (with_reducible exact ih0 _ _)
      | (with_reducible exact ih1 _ _ _)
      | (with_reducible exact ih2 _ _ _ _)
      | (with_reducible exact spec_Tokens.mono _ _)
      | (with_reducible exact LeO.refl _)
      | (with_reducible exact LeO.none _)
      | (with_reducible refine LeO.ite ?_ ?_)
      | (with_reducible refine LeO.bind ?_ (fun _ => ?_))
      | exact ih0 _ _
      | exact ih1 _ _ _
      | exact ih2 _ _ _ _
      | exact spec_Tokens.mono _ _
      | exact LeO.none _
      | refine LeO.ite ?_ ?_
      | refine LeO.bind ?_ (fun _ => ?_)
set_option maxHeartbeats 8000000 in
set_option maxRecDepth 100000 in
theorem laws_tame.calls (k : Nat) (a0 : ByteArray) (r : Bool) (w : World) (h : laws_tame.f k a0 = some r) :
    Calls Try.prog 35 #[.string a0] w fun e w' => e = .returned (.bool r) ∧ Below w.heap.size w w' := by
  have HB := Aside0.mk (Below.refl w.heap.size w)
  have H : ((spec_Tokens.f k a0).bind fun t115 => (laws_tame.l0 k t115 0)) = some r := h
  clear h
  replace H := Option.bind_eq_some_iff.mp H
  obtain ⟨t115, A20, H⟩ := H
  replace H : (laws_tame.l0 k t115 0) = some r := H
  have A2 := Aside0.mk A20
  clear A20
  have H' := Aside0.mk H
  clear H
  go_enter Try.func35, Try.ntmps35
  go_wp2_with (first | ((with_reducible refine gate_callee (f := 37) rfl ?_); refine goesL_ (some 7) rfl rfl Try.func37 (by kernel_rfl) rfl #[.string a0] rfl (by (try simp only [List.map_toArray, List.map_cons, List.map_nil]); first | done | rfl | (simp only [List.length_drop, List.length_take]; rfl)) ?_; (with_reducible refine (spec_Tokens.calls k a0 t115 _ A2.out).mono ?_); rintro e w3 ⟨v116, rfl, ho0, hb⟩; refine ⟨_, rfl, ?_⟩; have n0_ := Aside0.mk (Kd.R_lower ho0 (below_size (by repeat (first | (with_reducible first | exact HB.out | apply below_alloc | apply pw_below_drewN | apply below_drew1) | exact HB.out)))); have n1_ := Aside0.mk (below_step (by repeat (first | (with_reducible first | exact HB.out | apply below_alloc | apply pw_below_drewN | apply below_drew1) | exact HB.out)) hb); clear HB; have HO117 := n0_; have HB := n1_; clear n0_ n1_; (try clear hb); (try clear hb2); (try clear hk); (try clear hi); (try clear ho0)))
  go_loopg [4] k (fun kq v4 w' => ∃ (x4_1 : Int), v4 = .int .i64 x4_1 ∧ Aside0 (laws_tame.l0 kq t115 x4_1 = some r) ∧ Aside0 (kq ≤ k) ∧ Aside0 (Kd.R Kd.string 9 w' w.heap.size (fun _ => True) v116 t115) ∧ Aside0 (Below w.heap.size w w'))
  case atStart => exact ⟨(0), (by first | rfl | (simp; done) | (simp [*]; done)), H', ⟨Nat.le_refl _⟩, ⟨by (with_reducible repeat (first | apply Kd.R_alloc | apply Kd.R_drewN | apply Kd.R_drew)); exact HO117.out⟩, ⟨by repeat (first | (with_reducible first | exact HB.out | apply below_alloc | apply pw_below_drewN | apply below_drew1) | exact HB.out)⟩⟩
  case round =>
    clear H'
    try clear p2
    try clear c3
    obtain ⟨x4_1, rfl, HA, HK1, HO_3, HB⟩ := hrel
    cases gk with
    | zero => exact absurd HA.out (by simp [laws_tame.l0])
    | succ k1 =>
      have H := HA.out
      clear HA
      simp only [laws_tame.l0] at H
      by_cases c4 : x4_1 < (t115.length : Int)
      · rw [if_pos c4] at H
        have c4b0 : decide (x4_1 < (t115.length : Int)) = true := decide_eq_true c4
        clear c4
        have H' := Aside0.mk H
        clear H
        obtain ⟨Ao5, co5, eo5⟩ := Kd.R_slice HO_3.out
        subst eo5
        go_wp2
        go_loopg [5] k1 (fun kq v5 w' => ∃ (x5_2 : Int), v5 = .int .i64 x5_2 ∧ Aside0 (laws_tame.l1 kq t115 x4_1 x5_2 = some r) ∧ Aside0 (kq ≤ k1) ∧ Aside0 (Kd.R Kd.string 9 w' w.heap.size (fun _ => True) (.slice Ao5 t115.length co5) t115) ∧ Aside0 (Below w.heap.size w w'))
        case atStart => exact ⟨(0), (by first | rfl | (simp; done) | (simp [*]; done)), H', ⟨Nat.le_refl _⟩, ⟨by (with_reducible repeat (first | apply Kd.R_alloc | apply Kd.R_drewN | apply Kd.R_drew)); exact HO_3.out⟩, ⟨by repeat (first | (with_reducible first | exact HB.out | apply below_alloc | apply pw_below_drewN | apply below_drew1) | exact HB.out)⟩⟩
        case round =>
          clear H'
          try clear p2
          try clear c3
          try clear c4
          try clear c4b0
          try clear p2
          obtain ⟨x5_2, rfl, HA, HK2, HO_3, HB⟩ := hrel
          cases gk with
          | zero => exact absurd HA.out (by simp [laws_tame.l1])
          | succ k2 =>
            have H := HA.out
            clear HA
            simp only [laws_tame.l1] at H
            have HC6 := Aside0.mk H
            clear H
            go_upto_region 6 with (fail)
            go_cut [28] (fun v28 wc => ∃ (kq : Nat) (x28_5 : Bool), v28 = .bool x28_5 ∧ Aside0 (laws_tame.j2 kq t115 x4_1 x5_2 x28_5 = some r) ∧ Aside0 (kq ≤ k2) ∧ Aside0 (Kd.R Kd.string 9 wc w.heap.size (fun _ => True) (.slice Ao5 t115.length co5) t115) ∧ Aside0 (Below w.heap.size w wc))
            case first =>
              have H := HC6.out
              clear HC6
              by_cases c7 : 0 ≤ x4_1
              · rw [if_pos c7] at H
                have c7b0 : decide (0 ≤ x4_1) = true := decide_eq_true c7
                clear c7
                (first | rw [c7b0] | (simp only [i64_w, i32_w]; rw [c7b0]) | skip)
                by_cases c8 : x4_1 < (t115.length : Int)
                · rw [if_pos c8] at H
                  have c8b0 : decide (x4_1 < (t115.length : Int)) = true := decide_eq_true c8
                  clear c8
                  by_cases c9 : x5_2 < ((rdOf ByteArray.empty t115 x4_1).size : Int)
                  · rw [if_pos c9] at H
                    have c9b0 : decide (x5_2 < ((rdOf ByteArray.empty t115 x4_1).size : Int)) = true := decide_eq_true c9
                    clear c9
                    have H' := Aside0.mk H
                    clear H
                    have p118 : 0 ≤ (x4_1 : Int) := of_decide_eq_true (by first | (with_reducible assumption) | assumption)
                    have q118 : x4_1 < (t115.length : Int) := of_decide_eq_true (by first | (with_reducible assumption) | assumption)
                    obtain ⟨ad118, e118, hx118_0⟩ := Kd.at_string (Kd.R_reads' HO_3.out).2.2 x4_1 p118 q118
                    cases e118
                    replace p118 := eq_true p118
                    replace q118 := eq_true q118
                    have p119 : 0 ≤ (x4_1 : Int) := of_decide_eq_true (by first | (with_reducible assumption) | assumption)
                    have q119 : x4_1 < (t115.length : Int) := of_decide_eq_true (by first | (with_reducible assumption) | assumption)
                    obtain ⟨ad119, e119, hx119_0⟩ := Kd.at_string (Kd.R_reads' HO_3.out).2.2 x4_1 p119 q119
                    obtain rfl : ad118 = ad119 := (by injection e119)
                    replace p119 := eq_true p119
                    replace q119 := eq_true q119
                    go_wp2
                    go_meet
                    case rel => exact ⟨_, (decide (((rdOf ByteArray.empty t115 x4_1).size : Int) > 1)), (by first | rfl | (simp; done) | (simp [*]; done)), H', ⟨by have := HK1.out; have := HK2.out; first | omega | exact Nat.le_refl _⟩, ⟨by (with_reducible repeat (first | apply Kd.R_alloc | apply Kd.R_drewN | apply Kd.R_drew)); exact HO_3.out⟩, ⟨by repeat (first | (with_reducible first | exact HB.out | apply below_alloc | apply pw_below_drewN | apply below_drew1) | exact HB.out)⟩⟩
                  · rw [if_neg c9] at H
                    have c9b0 : decide (x5_2 < ((rdOf ByteArray.empty t115 x4_1).size : Int)) = false := decide_eq_false c9
                    clear c9
                    have H' := Aside0.mk H
                    clear H
                    have p118 : 0 ≤ (x4_1 : Int) := of_decide_eq_true (by first | (with_reducible assumption) | assumption)
                    have q118 : x4_1 < (t115.length : Int) := of_decide_eq_true (by first | (with_reducible assumption) | assumption)
                    obtain ⟨ad118, e118, hx118_0⟩ := Kd.at_string (Kd.R_reads' HO_3.out).2.2 x4_1 p118 q118
                    cases e118
                    replace p118 := eq_true p118
                    replace q118 := eq_true q118
                    go_wp2
                    go_meet
                    case rel => exact ⟨_, (false), (by first | rfl | (simp; done) | (simp [*]; done)), H', ⟨by have := HK1.out; have := HK2.out; first | omega | exact Nat.le_refl _⟩, ⟨by (with_reducible repeat (first | apply Kd.R_alloc | apply Kd.R_drewN | apply Kd.R_drew)); exact HO_3.out⟩, ⟨by repeat (first | (with_reducible first | exact HB.out | apply below_alloc | apply pw_below_drewN | apply below_drew1) | exact HB.out)⟩⟩
                · rw [if_neg c8] at H
                  exact absurd H (by simp)
              · rw [if_neg c7] at H
                exact absurd H (by simp)
            case rest =>
              clear HC6
              try clear p1
              try clear q1
              try clear hx1
              try clear p2
              try clear c3
              try clear c4
              try clear c4b0
              try clear c7
              try clear c7b0
              try clear c8
              try clear c8b0
              try clear c9
              try clear c9b0
              try clear hx118_0
              try clear hx119_0
              try clear p118
              try clear p119
              try clear p2
              try clear q118
              try clear q119
              obtain ⟨kq, x28_5, rfl, HA, HJ5, HO_3, HB⟩ := hcut
              cases kq with
              | zero => exact absurd HA.out (by simp [laws_tame.j2])
              | succ kj5 =>
                have H := HA.out
                clear HA
                simp only [laws_tame.j2] at H
                by_cases c10 : x28_5 = true
                · subst c10
                  have H1 : (if 0 ≤ x4_1 then (if x4_1 < (t115.length : Int) then (if 0 ≤ x5_2 then (if x5_2 < ((rdOf ByteArray.empty t115 x4_1).size : Int) then (if (bt (rdOf ByteArray.empty t115 x4_1) x5_2) = 42 then (some false) else (if (bt (rdOf ByteArray.empty t115 x4_1) x5_2) = 62 then (some false) else (laws_tame.l1 kj5 t115 x4_1 (wrap64 (x5_2 + 1))))) else (none)) else (none)) else (none)) else (none)) = some r := by rw [if_pos rfl] at H; exact H
                  clear H
                  have H := H1
                  clear H1
                  by_cases c11 : 0 ≤ x4_1
                  · rw [if_pos c11] at H
                    have c11b0 : decide (0 ≤ x4_1) = true := decide_eq_true c11
                    clear c11
                    by_cases c12 : x4_1 < (t115.length : Int)
                    · rw [if_pos c12] at H
                      have c12b0 : decide (x4_1 < (t115.length : Int)) = true := decide_eq_true c12
                      clear c12
                      by_cases c13 : 0 ≤ x5_2
                      · rw [if_pos c13] at H
                        have c13b0 : decide (0 ≤ x5_2) = true := decide_eq_true c13
                        clear c13
                        by_cases c14 : x5_2 < ((rdOf ByteArray.empty t115 x4_1).size : Int)
                        · rw [if_pos c14] at H
                          have c14b0 : decide (x5_2 < ((rdOf ByteArray.empty t115 x4_1).size : Int)) = true := decide_eq_true c14
                          clear c14
                          by_cases c16 : (bt (rdOf ByteArray.empty t115 x4_1) x5_2) = 42
                          · rw [if_pos c16] at H
                            have c16b0 : ((bt (rdOf ByteArray.empty t115 x4_1) x5_2) == 42) = true := beq_iff_eq.mpr c16
                            have c16b1 : ((bt (rdOf ByteArray.empty t115 x4_1) x5_2) != 42) = false := bne_eq_false_iff_eq.mpr c16
                            clear c16
                            obtain rfl := Option.some.inj H
                            have p120 : 0 ≤ (x4_1 : Int) := of_decide_eq_true (by first | (with_reducible assumption) | assumption)
                            have q120 : x4_1 < (t115.length : Int) := of_decide_eq_true (by first | (with_reducible assumption) | assumption)
                            obtain ⟨ad120, e120, hx120_0⟩ := Kd.at_string (Kd.R_reads' HO_3.out).2.2 x4_1 p120 q120
                            cases e120
                            replace p120 := eq_true p120
                            replace q120 := eq_true q120
                            have p15 : 0 ≤ (x5_2 : Int) := of_decide_eq_true (by first | (with_reducible assumption) | assumption)
                            have q15 : x5_2 < ((rdOf ByteArray.empty t115 x4_1).size : Int) := of_decide_eq_true (by first | (with_reducible assumption) | assumption)
                            have hx15 := bt_at (rdOf ByteArray.empty t115 x4_1) x5_2
                            replace p15 := eq_true p15
                            replace q15 := eq_true q15
                            go_wp2
                            go_ret
                            exact ⟨by first | rfl | (simp [errW_none, errW_some] <;> rfl) | (simp [*, errW_none, errW_some] <;> rfl), by repeat (first | (with_reducible first | exact HB.out | apply below_alloc | apply pw_below_drewN | apply below_drew1) | exact HB.out)⟩
                          · rw [if_neg c16] at H
                            have c16b0 : ((bt (rdOf ByteArray.empty t115 x4_1) x5_2) == 42) = false := beq_eq_false_iff_ne.mpr c16
                            have c16b1 : ((bt (rdOf ByteArray.empty t115 x4_1) x5_2) != 42) = true := bne_iff_ne.mpr c16
                            by_cases c18 : (bt (rdOf ByteArray.empty t115 x4_1) x5_2) = 62
                            · rw [if_pos c18] at H
                              have c18b0 : ((bt (rdOf ByteArray.empty t115 x4_1) x5_2) == 62) = true := beq_iff_eq.mpr c18
                              have c18b1 : ((bt (rdOf ByteArray.empty t115 x4_1) x5_2) != 62) = false := bne_eq_false_iff_eq.mpr c18
                              clear c18
                              obtain rfl := Option.some.inj H
                              have p120 : 0 ≤ (x4_1 : Int) := of_decide_eq_true (by first | (with_reducible assumption) | assumption)
                              have q120 : x4_1 < (t115.length : Int) := of_decide_eq_true (by first | (with_reducible assumption) | assumption)
                              obtain ⟨ad120, e120, hx120_0⟩ := Kd.at_string (Kd.R_reads' HO_3.out).2.2 x4_1 p120 q120
                              cases e120
                              replace p120 := eq_true p120
                              replace q120 := eq_true q120
                              have p15 : 0 ≤ (x5_2 : Int) := of_decide_eq_true (by first | (with_reducible assumption) | assumption)
                              have q15 : x5_2 < ((rdOf ByteArray.empty t115 x4_1).size : Int) := of_decide_eq_true (by first | (with_reducible assumption) | assumption)
                              have hx15 := bt_at (rdOf ByteArray.empty t115 x4_1) x5_2
                              replace p15 := eq_true p15
                              replace q15 := eq_true q15
                              have p121 : 0 ≤ (x4_1 : Int) := of_decide_eq_true (by first | (with_reducible assumption) | assumption)
                              have q121 : x4_1 < (t115.length : Int) := of_decide_eq_true (by first | (with_reducible assumption) | assumption)
                              obtain ⟨ad121, e121, hx121_0⟩ := Kd.at_string (Kd.R_reads' HO_3.out).2.2 x4_1 p121 q121
                              obtain rfl : ad120 = ad121 := (by injection e121)
                              replace p121 := eq_true p121
                              replace q121 := eq_true q121
                              have p17 : 0 ≤ (x5_2 : Int) := of_decide_eq_true (by first | (with_reducible assumption) | assumption)
                              have q17 : x5_2 < ((rdOf ByteArray.empty t115 x4_1).size : Int) := of_decide_eq_true (by first | (with_reducible assumption) | assumption)
                              have hx17 := bt_at (rdOf ByteArray.empty t115 x4_1) x5_2
                              replace p17 := eq_true p17
                              replace q17 := eq_true q17
                              go_wp2
                              go_ret
                              exact ⟨by first | rfl | (simp [errW_none, errW_some] <;> rfl) | (simp [*, errW_none, errW_some] <;> rfl), by repeat (first | (with_reducible first | exact HB.out | apply below_alloc | apply pw_below_drewN | apply below_drew1) | exact HB.out)⟩
                            · rw [if_neg c18] at H
                              have c18b0 : ((bt (rdOf ByteArray.empty t115 x4_1) x5_2) == 62) = false := beq_eq_false_iff_ne.mpr c18
                              have c18b1 : ((bt (rdOf ByteArray.empty t115 x4_1) x5_2) != 62) = true := bne_iff_ne.mpr c18
                              have H' := Aside0.mk H
                              clear H
                              have p120 : 0 ≤ (x4_1 : Int) := of_decide_eq_true (by first | (with_reducible assumption) | assumption)
                              have q120 : x4_1 < (t115.length : Int) := of_decide_eq_true (by first | (with_reducible assumption) | assumption)
                              obtain ⟨ad120, e120, hx120_0⟩ := Kd.at_string (Kd.R_reads' HO_3.out).2.2 x4_1 p120 q120
                              cases e120
                              replace p120 := eq_true p120
                              replace q120 := eq_true q120
                              have p15 : 0 ≤ (x5_2 : Int) := of_decide_eq_true (by first | (with_reducible assumption) | assumption)
                              have q15 : x5_2 < ((rdOf ByteArray.empty t115 x4_1).size : Int) := of_decide_eq_true (by first | (with_reducible assumption) | assumption)
                              have hx15 := bt_at (rdOf ByteArray.empty t115 x4_1) x5_2
                              replace p15 := eq_true p15
                              replace q15 := eq_true q15
                              have p121 : 0 ≤ (x4_1 : Int) := of_decide_eq_true (by first | (with_reducible assumption) | assumption)
                              have q121 : x4_1 < (t115.length : Int) := of_decide_eq_true (by first | (with_reducible assumption) | assumption)
                              obtain ⟨ad121, e121, hx121_0⟩ := Kd.at_string (Kd.R_reads' HO_3.out).2.2 x4_1 p121 q121
                              obtain rfl : ad120 = ad121 := (by injection e121)
                              replace p121 := eq_true p121
                              replace q121 := eq_true q121
                              have p17 : 0 ≤ (x5_2 : Int) := of_decide_eq_true (by first | (with_reducible assumption) | assumption)
                              have q17 : x5_2 < ((rdOf ByteArray.empty t115 x4_1).size : Int) := of_decide_eq_true (by first | (with_reducible assumption) | assumption)
                              have hx17 := bt_at (rdOf ByteArray.empty t115 x4_1) x5_2
                              replace p17 := eq_true p17
                              replace q17 := eq_true q17
                              go_wp2
                              go_roundg kj5
                              case measure => have := HK1.out; have := HK2.out; have := HJ5.out; omega
                              case rel => exact ⟨(wrap64 (x5_2 + 1)), (by first | rfl | (simp; done) | (simp [*]; done)), H', ⟨by have := HK1.out; have := HK2.out; have := HJ5.out; omega⟩, ⟨by (with_reducible repeat (first | apply Kd.R_alloc | apply Kd.R_drewN | apply Kd.R_drew)); exact HO_3.out⟩, ⟨by repeat (first | (with_reducible first | exact HB.out | apply below_alloc | apply pw_below_drewN | apply below_drew1) | exact HB.out)⟩⟩
                        · rw [if_neg c14] at H
                          exact absurd H (by simp)
                      · rw [if_neg c13] at H
                        exact absurd H (by simp)
                    · rw [if_neg c12] at H
                      exact absurd H (by simp)
                  · rw [if_neg c11] at H
                    exact absurd H (by simp)
                · replace c10 := Bool.eq_false_iff.mpr c10
                  subst c10
                  have H1 : (laws_tame.l0 kj5 t115 (wrap64 (x4_1 + 1))) = some r := by rw [if_neg (show ¬ (false = true) by decide)] at H; exact H
                  clear H
                  have H := H1
                  clear H1
                  have H' := Aside0.mk H
                  clear H
                  go_wp2
                  go_roundg kj5
                  case measure => have := HK1.out; have := HK2.out; have := HJ5.out; omega
                  case rel => exact ⟨(wrap64 (x4_1 + 1)), (by first | rfl | (simp; done) | (simp [*]; done)), H', ⟨by have := HK1.out; have := HK2.out; have := HJ5.out; omega⟩, ⟨by (with_reducible repeat (first | apply Kd.R_alloc | apply Kd.R_drewN | apply Kd.R_drew)); exact HO_3.out⟩, ⟨by repeat (first | (with_reducible first | exact HB.out | apply below_alloc | apply pw_below_drewN | apply below_drew1) | exact HB.out)⟩⟩
      · rw [if_neg c4] at H
        have c4b0 : decide (x4_1 < (t115.length : Int)) = false := decide_eq_false c4
        clear c4
        obtain rfl := Option.some.inj H
        obtain ⟨Ao19, co19, eo19⟩ := Kd.R_slice HO_3.out
        subst eo19
        go_wp2
        go_ret
        exact ⟨by first | rfl | (simp [errW_none, errW_some] <;> rfl) | (simp [*, errW_none, errW_some] <;> rfl), by repeat (first | (with_reducible first | exact HB.out | apply below_alloc | apply pw_below_drewN | apply below_drew1) | exact HB.out)⟩

/-! ### laws_valid: function 13 -/
def laws_valid.f (k : Nat) (a0 : ByteArray) : Option (Bool) := (laws_clean.f k a0).bind fun t122 => (if t122 = true then ((spec_Valid.f k a0).bind fun t123 => (if t123 = true then ((laws_tame.f k a0).bind fun t124 => (some t124)) else (some false))) else (some false))
theorem laws_valid.mono : ∀ a0 k, LeO (laws_valid.f k a0) (laws_valid.f (k + 1) a0) := by
  intro a0 k
  unfold laws_valid.f
  repeat' first
      | (with_reducible exact laws_clean.mono _ _)
      | (with_reducible exact laws_tame.mono _ _)
      | (with_reducible exact spec_Valid.mono _ _)
      | (with_reducible exact LeO.refl _)
      | (with_reducible exact LeO.none _)
      | (with_reducible refine LeO.ite ?_ ?_)
      | (with_reducible refine LeO.bind ?_ (fun _ => ?_))
      | exact laws_clean.mono _ _
      | exact laws_tame.mono _ _
      | exact spec_Valid.mono _ _
      | exact LeO.none _
      | refine LeO.ite ?_ ?_
      | refine LeO.bind ?_ (fun _ => ?_)
set_option maxHeartbeats 8000000 in
set_option maxRecDepth 100000 in
theorem laws_valid.calls (k : Nat) (a0 : ByteArray) (r : Bool) (w : World) (h : laws_valid.f k a0 = some r) :
    Calls Try.prog 13 #[.string a0] w fun e w' => e = .returned (.bool r) ∧ Below w.heap.size w w' := by
  have HB := Aside0.mk (Below.refl w.heap.size w)
  have H : ((laws_clean.f k a0).bind fun t122 => (if t122 = true then ((spec_Valid.f k a0).bind fun t123 => (if t123 = true then ((laws_tame.f k a0).bind fun t124 => (some t124)) else (some false))) else (some false))) = some r := h
  clear h
  replace H := Option.bind_eq_some_iff.mp H
  obtain ⟨t122, A20, H⟩ := H
  replace H : (if t122 = true then ((spec_Valid.f k a0).bind fun t123 => (if t123 = true then ((laws_tame.f k a0).bind fun t124 => (some t124)) else (some false))) else (some false)) = some r := H
  have A2 := Aside0.mk A20
  clear A20
  by_cases c3 : t122 = true
  · subst c3
    have H1 : ((spec_Valid.f k a0).bind fun t123 => (if t123 = true then ((laws_tame.f k a0).bind fun t124 => (some t124)) else (some false))) = some r := by rw [if_pos rfl] at H; exact H
    clear H
    have H := H1
    clear H1
    replace H := Option.bind_eq_some_iff.mp H
    obtain ⟨t123, A40, H⟩ := H
    replace H : (if t123 = true then ((laws_tame.f k a0).bind fun t124 => (some t124)) else (some false)) = some r := H
    have A4 := Aside0.mk A40
    clear A40
    by_cases c5 : t123 = true
    · subst c5
      have H1 : ((laws_tame.f k a0).bind fun t124 => (some t124)) = some r := by rw [if_pos rfl] at H; exact H
      clear H
      have H := H1
      clear H1
      replace H := Option.bind_eq_some_iff.mp H
      obtain ⟨t124, A60, H⟩ := H
      replace H : (some t124) = some r := H
      have A6 := Aside0.mk A60
      clear A60
      obtain rfl := Option.some.inj H
      go_enter Try.func13, Try.ntmps13
      go_wp2_with (first | ((with_reducible refine gate_callee (f := 27) rfl ?_); refine goesL_ (some 4) rfl rfl Try.func27 (by kernel_rfl) rfl #[.string a0] rfl (by (try simp only [List.map_toArray, List.map_cons, List.map_nil]); first | done | rfl | (simp only [List.length_drop, List.length_take]; rfl)) ?_; (with_reducible refine (laws_clean.calls k a0 true _ A2.out).mono ?_); rintro e w' ⟨rfl, ⟨nd, rfl⟩⟩; refine ⟨_, rfl, ?_⟩) | (go_at_call 22; (with_reducible refine (spec_Valid.calls k a0 true _ A4.out).mono ?_); rintro e w7 ⟨rfl, hb⟩; have n0_ := Aside0.mk (below_step (by repeat (first | (with_reducible first | exact HB.out | apply below_alloc | apply pw_below_drewN | apply below_drew1) | exact HB.out)) hb); clear HB; have HB := n0_; clear n0_; (try clear hb); (try clear hb2); (try clear hk); (try clear hi)) | (go_at_call 35; (with_reducible refine (laws_tame.calls k a0 t124 _ A6.out).mono ?_); rintro e w8 ⟨rfl, hb⟩; have n0_ := Aside0.mk (below_step (by repeat (first | (with_reducible first | exact HB.out | apply below_alloc | apply pw_below_drewN | apply below_drew1) | exact HB.out)) hb); clear HB; have HB := n0_; clear n0_; (try clear hb); (try clear hb2); (try clear hk); (try clear hi)))
      go_ret
      exact ⟨by first | rfl | (simp [errW_none, errW_some] <;> rfl) | (simp [*, errW_none, errW_some] <;> rfl), by repeat (first | (with_reducible first | exact HB.out | apply below_alloc | apply pw_below_drewN | apply below_drew1) | exact HB.out)⟩
    · replace c5 := Bool.eq_false_iff.mpr c5
      subst c5
      have H1 : (some false) = some r := by rw [if_neg (show ¬ (false = true) by decide)] at H; exact H
      clear H
      have H := H1
      clear H1
      obtain rfl := Option.some.inj H
      go_enter Try.func13, Try.ntmps13
      go_wp2_with (first | ((with_reducible refine gate_callee (f := 27) rfl ?_); refine goesL_ (some 4) rfl rfl Try.func27 (by kernel_rfl) rfl #[.string a0] rfl (by (try simp only [List.map_toArray, List.map_cons, List.map_nil]); first | done | rfl | (simp only [List.length_drop, List.length_take]; rfl)) ?_; (with_reducible refine (laws_clean.calls k a0 true _ A2.out).mono ?_); rintro e w' ⟨rfl, ⟨nd, rfl⟩⟩; refine ⟨_, rfl, ?_⟩) | (go_at_call 22; (with_reducible refine (spec_Valid.calls k a0 false _ A4.out).mono ?_); rintro e w9 ⟨rfl, hb⟩; have n0_ := Aside0.mk (below_step (by repeat (first | (with_reducible first | exact HB.out | apply below_alloc | apply pw_below_drewN | apply below_drew1) | exact HB.out)) hb); clear HB; have HB := n0_; clear n0_; (try clear hb); (try clear hb2); (try clear hk); (try clear hi)))
      go_ret
      exact ⟨by first | rfl | (simp [errW_none, errW_some] <;> rfl) | (simp [*, errW_none, errW_some] <;> rfl), by repeat (first | (with_reducible first | exact HB.out | apply below_alloc | apply pw_below_drewN | apply below_drew1) | exact HB.out)⟩
  · replace c3 := Bool.eq_false_iff.mpr c3
    subst c3
    have H1 : (some false) = some r := by rw [if_neg (show ¬ (false = true) by decide)] at H; exact H
    clear H
    have H := H1
    clear H1
    obtain rfl := Option.some.inj H
    go_enter Try.func13, Try.ntmps13
    go_wp2_with (first | ((with_reducible refine gate_callee (f := 27) rfl ?_); refine goesL_ (some 4) rfl rfl Try.func27 (by kernel_rfl) rfl #[.string a0] rfl (by (try simp only [List.map_toArray, List.map_cons, List.map_nil]); first | done | rfl | (simp only [List.length_drop, List.length_take]; rfl)) ?_; (with_reducible refine (laws_clean.calls k a0 false _ A2.out).mono ?_); rintro e w' ⟨rfl, ⟨nd, rfl⟩⟩; refine ⟨_, rfl, ?_⟩))
    go_ret
    exact ⟨by first | rfl | (simp [errW_none, errW_some] <;> rfl) | (simp [*, errW_none, errW_some] <;> rfl), by repeat (first | (with_reducible first | exact HB.out | apply below_alloc | apply pw_below_drewN | apply below_drew1) | exact HB.out)⟩

/-! ### server_tokenizeSubjectIntoSlice: function 59 -/
theorem info_str : (Try.prog.info? 9).map (fun i => (i.zero, i.size, i.bytes)) = some (some (.string ⟨#[]⟩), 1, 16) := by kernel_rfl
def TokPost (w0 : World) (s : ByteArray) (e : Ending) (w' : World) : Prop :=
  ∃ v, e = .returned v ∧ Road.AnyRow w' w0.heap.size 1 v (Road.tokB s).length ((Road.tokB s).map Value.string) ∧ Below w0.heap.size w0 w'
set_option maxHeartbeats 8000000 in
set_option maxRecDepth 100000 in
/-- The parts of a text, put behind nothing, into a row of whatever make. -/
theorem server_tokenizeSubjectIntoSlice.any (v0 : Value) (a1 : ByteArray) (w0 w : World) (hs : a1.size ≤ 2147483647) (hB : Below w0.heap.size w0 w) (hr : Road.AnyRow w w0.heap.size 1 v0 0 []) :
    Calls Try.prog 59 #[v0, .string a1] w (TokPost w0 a1) := by
  have HS := Aside0.mk hs
  clear hs
  have HB := Aside0.mk hB
  clear hB
  have HR := Aside0.mk (show Road.AnyRow w w0.heap.size 1 v0 ([] : List ByteArray).length (([] : List ByteArray).map Value.string) from hr)
  clear hr
  go_enter Try.func59, Try.ntmps59
  go_wp2
  go_loopw [0, 5, 6] (fun v v5 v6 w' => ∃ (out : List ByteArray) (x5 x6 : Int), v5 = .int .i64 x5 ∧ v6 = .int .i64 x6 ∧ Aside0 (Road.TokAt a1 out x5 x6) ∧ Aside0 (Road.AnyRow w' w0.heap.size 1 v out.length (out.map Value.string)) ∧ Aside0 (Below w0.heap.size w0 w')) (fun _ _ v6 _ => a1.size - (intOf v6).toNat)
  case atStart => exact ⟨[], 0, 0, rfl, rfl, ⟨Road.TokAt.start a1⟩, HR, HB⟩
  case round =>
    clear HR HB
    obtain ⟨out, x5, x6, rfl, rfl, HT, HR, HB⟩ := hrel
    have z1 := HT.out.1
    have z2 := HT.out.2.1
    have z3 := HT.out.2.2.1
    have z4 : out.length ≤ 2147483647 := by have := HT.out.2.2.2.1; have := HS.out; omega
    have Z4 := Aside0.mk z4
    clear z4
    by_cases c3 : x6 < (a1.size : Int)
    · have c3b0 : decide (x6 < (a1.size : Int)) = true := decide_eq_true c3
      have hm : Aside0 (wrap64 (x6 + 1) = x6 + 1 ∧ 0 ≤ x6) := ⟨by have := HS.out; unfold wrap64; omega⟩
      have p5 : 0 ≤ (x6 : Int) := by omega
      by_cases c6 : (bt a1 x6) = 46
      · have c6b0 : ((bt a1 x6) == 46) = true := beq_iff_eq.mpr c6
        have c6b1 : ((bt a1 x6) != 46) = false := bne_eq_false_iff_eq.mpr c6
        have HT2 := Aside0.mk (Road.TokAt.dot HT.out c3 HS.out c6)
        clear c6 HT
        have HC := Aside0.mk c3
        have c7b0 := eq_true (show 0 ≤ x5 by omega)
        have c7b1 : decide (0 ≤ x5) = true := decide_eq_true (by omega)
        have c8b0 := eq_true z2
        have c8b1 : decide (x5 ≤ x6) = true := decide_eq_true z2
        have c9b0 := eq_true z3
        have c9b1 : decide (x6 ≤ (a1.size : Int)) = true := decide_eq_true z3
        have q5 := eq_true c3
        have hx5 := bt_at a1 x6
        replace p5 := eq_true p5
        clear z1 z2 z3 c3
        go_wp2_with ((with_reducible refine gate_builtin (b := .append) (xs := #[.tmp 17, .tmp 22]) rfl ?_); at_builtin; refine Road.AnyRow.append (w0 := w0) rfl (.tmp 17) (.tmp 22) 38 9 (.string ⟨#[]⟩) 1 16 rfl Try.underlying38 info_str rfl (by decide) u0 out.length (out.map Value.string) [.string (a1.extract (x5 : Int).toNat (x6 : Int).toNat)] rfl rfl rfl ?h1 ?h2 ?h3 ?h4 ?h5 ?_; (case h1 => intro u hu; rw [List.mem_singleton.1 hu]; rfl); (case h2 => have := Z4.out; simp only [maxLen]; omega); (case h3 => have := Z4.out; omega); (case h4 => exact HR.out); (case h5 => exact HB.out); intro v126 w11 ho hb; have n1_ := Aside0.mk ho; have n2_ := Aside0.mk hb; clear HB HR ho hb)
        go_roundw
        case rel => exact ⟨out ++ [a1.extract (x5 : Int).toNat (x6 : Int).toNat], _, _, rfl, rfl, HT2, ⟨by have := n1_.out; simpa using this⟩, n2_⟩
        case measure => simp only [intOf]; have := hm.out; have := HC.out; omega
      · have c6b0 : ((bt a1 x6) == 46) = false := beq_eq_false_iff_ne.mpr c6
        have c6b1 : ((bt a1 x6) != 46) = true := bne_iff_ne.mpr c6
        have HT2 := Aside0.mk (Road.TokAt.skip HT.out c3 HS.out c6)
        clear c6 HT
        have HC := Aside0.mk c3
        have q5 := eq_true c3
        have hx5 := bt_at a1 x6
        replace p5 := eq_true p5
        clear z1 z2 z3 c3
        go_wp2
        go_roundw
        case rel => exact ⟨out, _, _, rfl, rfl, HT2, HR, HB⟩
        case measure => simp only [intOf]; have := hm.out; have := HC.out; omega
    · have c3b0 : decide (x6 < (a1.size : Int)) = false := decide_eq_false c3
      have HT2 := Aside0.mk (Road.TokAt.last HT.out c3)
      clear HT
      have c12b0 := eq_true (show 0 ≤ x5 by omega)
      have c12b1 : decide (0 ≤ x5) = true := decide_eq_true (by omega)
      have c13b0 := eq_true (show x5 ≤ (a1.size : Int) by omega)
      have c13b1 : decide (x5 ≤ (a1.size : Int)) = true := decide_eq_true (by omega)
      clear z1 z2 z3 c3
      go_wp2_with ((with_reducible refine gate_builtin (b := .append) (xs := #[.tmp 26, .tmp 30]) rfl ?_); at_builtin; refine Road.AnyRow.append (w0 := w0) rfl (.tmp 26) (.tmp 30) 38 9 (.string ⟨#[]⟩) 1 16 rfl Try.underlying38 info_str rfl (by decide) u0 out.length (out.map Value.string) [.string (a1.extract (x5 : Int).toNat a1.size)] rfl rfl rfl ?h1 ?h2 ?h3 ?h4 ?h5 ?_; (case h1 => intro u hu; rw [List.mem_singleton.1 hu]; rfl); (case h2 => have := Z4.out; simp only [maxLen]; omega); (case h3 => have := Z4.out; omega); (case h4 => exact HR.out); (case h5 => exact HB.out); intro v126 w11 ho hb; have n1_ := Aside0.mk ho; have n2_ := Aside0.mk hb; clear HB HR ho hb)
      go_ret
      refine ⟨_, rfl, ?_, n2_.out⟩
      rw [← HT2.out]
      have := n1_.out
      simpa using this


/-! ### server_analyzeTokens: function 60 -/
mutual
def server_analyzeTokens.l0 : Nat → Bool → Bool → List ByteArray → Int → Int → Option (Bool × Bool)
  | 0, _, _, _, _, _ => none
  | k + 1, x2, x3, x7, x8, x9 => if x9 < x8 then (if 0 ≤ x9 then (if x9 < (x7.length : Int) then (if ((rdOf ByteArray.empty x7 x9).size : Int) = 0 then (server_analyzeTokens.j1 k x2 x3 (rdOf ByteArray.empty x7 x9) x7 x8 x9 true) else (server_analyzeTokens.j1 k x2 x3 (rdOf ByteArray.empty x7 x9) x7 x8 x9 (decide (((rdOf ByteArray.empty x7 x9).size : Int) > 1)))) else (none)) else (none)) else (some (x2, x3))
def server_analyzeTokens.j1 : Nat → Bool → Bool → ByteArray → List ByteArray → Int → Int → Bool → Option (Bool × Bool)
  | 0, _, _, _, _, _, _, _ => none
  | k + 1, x2, x3, x5, x7, x8, x9, x20 => if x20 = true then (server_analyzeTokens.l0 k x2 x3 x7 x8 (wrap64 (x9 + 1))) else (if 0 < (x5.size : Int) then (if (bt x5 0) = 42 then (server_analyzeTokens.l0 k true x3 x7 x8 (wrap64 (x9 + 1))) else (if (bt x5 0) = 62 then (server_analyzeTokens.l0 k x2 true x7 x8 (wrap64 (x9 + 1))) else (server_analyzeTokens.l0 k x2 x3 x7 x8 (wrap64 (x9 + 1))))) else (none))
end
def server_analyzeTokens.f (k : Nat) (l0 : List ByteArray) : Option (Bool × Bool) := server_analyzeTokens.l0 k false false l0 (l0.length : Int) 0
theorem server_analyzeTokens.mono_l : ∀ k, (∀ y0 y1 y2 y3 y4, LeO (server_analyzeTokens.l0 k y0 y1 y2 y3 y4) (server_analyzeTokens.l0 (k + 1) y0 y1 y2 y3 y4)) ∧ (∀ y0 y1 y2 y3 y4 y5 y6, LeO (server_analyzeTokens.j1 k y0 y1 y2 y3 y4 y5 y6) (server_analyzeTokens.j1 (k + 1) y0 y1 y2 y3 y4 y5 y6))
  | 0 => ⟨fun _ _ _ _ _ r h => by simp [server_analyzeTokens.l0] at h, fun _ _ _ _ _ _ _ r h => by simp [server_analyzeTokens.j1] at h⟩
  | k + 1 => by
    obtain ⟨ih0, ih1⟩ := server_analyzeTokens.mono_l k
    refine ⟨?_, ?_⟩
    · intro y0 y1 y2 y3 y4
      unfold server_analyzeTokens.l0
      repeat' first
      | (with_reducible exact ih0 _ _ _ _ _)
      | (with_reducible exact ih1 _ _ _ _ _ _ _)
      | (with_reducible exact LeO.refl _)
      | (with_reducible exact LeO.none _)
      | (with_reducible refine LeO.ite ?_ ?_)
      | (with_reducible refine LeO.bind ?_ (fun _ => ?_))
      | exact ih0 _ _ _ _ _
      | exact ih1 _ _ _ _ _ _ _
      | exact LeO.none _
      | refine LeO.ite ?_ ?_
      | refine LeO.bind ?_ (fun _ => ?_)
    · intro y0 y1 y2 y3 y4 y5 y6
      unfold server_analyzeTokens.j1
      repeat' first
      | (with_reducible exact ih0 _ _ _ _ _)
      | (with_reducible exact ih1 _ _ _ _ _ _ _)
      | (with_reducible exact LeO.refl _)
      | (with_reducible exact LeO.none _)
      | (with_reducible refine LeO.ite ?_ ?_)
      | (with_reducible refine LeO.bind ?_ (fun _ => ?_))
      | exact ih0 _ _ _ _ _
      | exact ih1 _ _ _ _ _ _ _
      | exact LeO.none _
      | refine LeO.ite ?_ ?_
      | refine LeO.bind ?_ (fun _ => ?_)
theorem server_analyzeTokens.mono : ∀ a0 k, LeO (server_analyzeTokens.f k a0) (server_analyzeTokens.f (k + 1) a0) := by
  intro a0 k
  obtain ⟨ih0, ih1⟩ := server_analyzeTokens.mono_l k
  unfold server_analyzeTokens.f
  repeat' first
      | (with_reducible exact ih0 _ _ _ _ _)
      | (with_reducible exact ih1 _ _ _ _ _ _ _)
      | (with_reducible exact LeO.refl _)
      | (with_reducible exact LeO.none _)
      | (with_reducible refine LeO.ite ?_ ?_)
      | (with_reducible refine LeO.bind ?_ (fun _ => ?_))
      | exact ih0 _ _ _ _ _
      | exact ih1 _ _ _ _ _ _ _
      | exact LeO.none _
      | refine LeO.ite ?_ ?_
      | refine LeO.bind ?_ (fun _ => ?_)
set_option maxHeartbeats 8000000 in
set_option maxRecDepth 100000 in
theorem server_analyzeTokens.calls (k : Nat) (A0 : Option Addr) (c0 : Nat) (l0 : List ByteArray) (r1 : Bool) (r2 : Bool) (w : World) (hr0 : Kd.C Kd.string w A0 l0.length l0) (hc0 : l0.length ≤ c0) (h : server_analyzeTokens.f k l0 = some (r1, r2)) :
    Calls Try.prog 60 #[.slice A0 l0.length c0] w fun e w' => e = .returned (.tuple #[.bool r1, .bool r2]) ∧ Drawn0 w w' := by
  have HR0 := Aside0.mk hr0
  have HC0 := Aside0.mk hc0
  clear hr0 hc0
  have H : (server_analyzeTokens.l0 k false false l0 (l0.length : Int) 0) = some (r1, r2) := h
  clear h
  have H' := Aside0.mk H
  clear H
  go_enter Try.func60, Try.ntmps60
  go_wp2
  go_loopg [2, 3, 9] k (fun kq v2 v3 v9 w' => ∃ (x2_1 : Bool) (x3_1 : Bool) (x9_1 : Int), v2 = .bool x2_1 ∧ v3 = .bool x3_1 ∧ v9 = .int .i64 x9_1 ∧ Aside0 (server_analyzeTokens.l0 kq x2_1 x3_1 l0 (l0.length : Int) x9_1 = some (r1, r2)) ∧ Aside0 (kq ≤ k) ∧ Drawn0 w w')
  case atStart => exact ⟨(false), (false), (0), (by first | rfl | (simp; done) | (simp [*]; done)), (by first | rfl | (simp; done) | (simp [*]; done)), (by first | rfl | (simp; done) | (simp [*]; done)), H', ⟨Nat.le_refl _⟩, by repeat (first | exact Drawn0.refl _ | apply Drawn0.step)⟩
  case round =>
    clear H'
    obtain ⟨x2_1, x3_1, x9_1, rfl, rfl, rfl, HA, HK1, ⟨m1, rfl⟩⟩ := hrel
    cases gk with
    | zero => exact absurd HA.out (by simp [server_analyzeTokens.l0])
    | succ k1 =>
      have H := HA.out
      clear HA
      simp only [server_analyzeTokens.l0] at H
      by_cases c2 : x9_1 < (l0.length : Int)
      · rw [if_pos c2] at H
        have c2b0 : decide (x9_1 < (l0.length : Int)) = true := decide_eq_true c2
        clear c2
        by_cases c3 : 0 ≤ x9_1
        · rw [if_pos c3] at H
          have c3b0 : decide (0 ≤ x9_1) = true := decide_eq_true c3
          clear c3
          by_cases c4 : x9_1 < (l0.length : Int)
          · rw [if_pos c4] at H
            have c4b0 : decide (x9_1 < (l0.length : Int)) = true := decide_eq_true c4
            clear c4
            have HC5 := Aside0.mk H
            clear H
            have p125 : 0 ≤ (x9_1 : Int) := of_decide_eq_true (by first | (with_reducible assumption) | assumption)
            have q125 : x9_1 < (l0.length : Int) := of_decide_eq_true (by first | (with_reducible assumption) | assumption)
            obtain ⟨ad125, e125, hx125_0⟩ := Kd.at_string HR0.out x9_1 p125 q125
            cases e125
            replace p125 := eq_true p125
            replace q125 := eq_true q125
            go_upto_region 5 with (fail)
            go_cut [20] (fun v20 wc => ∃ (kq : Nat) (x20_4 : Bool), v20 = .bool x20_4 ∧ Aside0 (server_analyzeTokens.j1 kq x2_1 x3_1 (rdOf ByteArray.empty l0 x9_1) l0 (l0.length : Int) x9_1 x20_4 = some (r1, r2)) ∧ Aside0 (kq ≤ k1) ∧ Drawn0 w wc)
            case first =>
              have H := HC5.out
              clear HC5
              by_cases c6 : ((rdOf ByteArray.empty l0 x9_1).size : Int) = 0
              · rw [if_pos c6] at H
                have c6b0 : (((rdOf ByteArray.empty l0 x9_1).size : Int) == 0) = true := beq_iff_eq.mpr c6
                have c6b1 : (((rdOf ByteArray.empty l0 x9_1).size : Int) != 0) = false := bne_eq_false_iff_eq.mpr c6
                clear c6
                (first | rw [c6b0] | (simp only [i64_w, i32_w]; rw [c6b0]) | skip)
                have H' := Aside0.mk H
                clear H
                go_wp2
                go_meet
                case rel => exact ⟨_, (true), (by first | rfl | (simp; done) | (simp [*]; done)), H', ⟨by have := HK1.out; first | omega | exact Nat.le_refl _⟩, by repeat (first | exact Drawn0.refl _ | apply Drawn0.step)⟩
              · rw [if_neg c6] at H
                have c6b0 : (((rdOf ByteArray.empty l0 x9_1).size : Int) == 0) = false := beq_eq_false_iff_ne.mpr c6
                have c6b1 : (((rdOf ByteArray.empty l0 x9_1).size : Int) != 0) = true := bne_iff_ne.mpr c6
                (first | rw [c6b0] | (simp only [i64_w, i32_w]; rw [c6b0]) | skip)
                have H' := Aside0.mk H
                clear H
                go_wp2
                go_meet
                case rel => exact ⟨_, (decide (((rdOf ByteArray.empty l0 x9_1).size : Int) > 1)), (by first | rfl | (simp; done) | (simp [*]; done)), H', ⟨by have := HK1.out; first | omega | exact Nat.le_refl _⟩, by repeat (first | exact Drawn0.refl _ | apply Drawn0.step)⟩
            case rest =>
              clear HC5
              try clear p1
              try clear q1
              try clear hx1
              try clear c2
              try clear c2b0
              try clear p2
              try clear c3
              try clear c3b0
              try clear c4
              try clear c4b0
              try clear c6
              try clear c6b0
              try clear c6b1
              try clear hx125_0
              try clear p125
              try clear q125
              obtain ⟨kq, x20_4, rfl, HA, HJ4, ⟨mc4, rfl⟩⟩ := hcut
              cases kq with
              | zero => exact absurd HA.out (by simp [server_analyzeTokens.j1])
              | succ kj4 =>
                have H := HA.out
                clear HA
                simp only [server_analyzeTokens.j1] at H
                by_cases c7 : x20_4 = true
                · subst c7
                  have H1 : (server_analyzeTokens.l0 kj4 x2_1 x3_1 l0 (l0.length : Int) (wrap64 (x9_1 + 1))) = some (r1, r2) := by rw [if_pos rfl] at H; exact H
                  clear H
                  have H := H1
                  clear H1
                  have H' := Aside0.mk H
                  clear H
                  go_wp2
                  go_roundg kj4
                  case measure => have := HK1.out; have := HJ4.out; omega
                  case rel => exact ⟨(x2_1), (x3_1), (wrap64 (x9_1 + 1)), (by first | rfl | (simp; done) | (simp [*]; done)), (by first | rfl | (simp; done) | (simp [*]; done)), (by first | rfl | (simp; done) | (simp [*]; done)), H', ⟨by have := HK1.out; have := HJ4.out; omega⟩, by repeat (first | exact Drawn0.refl _ | apply Drawn0.step)⟩
                · replace c7 := Bool.eq_false_iff.mpr c7
                  subst c7
                  have H1 : (if 0 < ((rdOf ByteArray.empty l0 x9_1).size : Int) then (if (bt (rdOf ByteArray.empty l0 x9_1) 0) = 42 then (server_analyzeTokens.l0 kj4 true x3_1 l0 (l0.length : Int) (wrap64 (x9_1 + 1))) else (if (bt (rdOf ByteArray.empty l0 x9_1) 0) = 62 then (server_analyzeTokens.l0 kj4 x2_1 true l0 (l0.length : Int) (wrap64 (x9_1 + 1))) else (server_analyzeTokens.l0 kj4 x2_1 x3_1 l0 (l0.length : Int) (wrap64 (x9_1 + 1))))) else (none)) = some (r1, r2) := by rw [if_neg (show ¬ (false = true) by decide)] at H; exact H
                  clear H
                  have H := H1
                  clear H1
                  by_cases c8 : 0 < ((rdOf ByteArray.empty l0 x9_1).size : Int)
                  · rw [if_pos c8] at H
                    have c8b0 : decide (0 < ((rdOf ByteArray.empty l0 x9_1).size : Int)) = true := decide_eq_true c8
                    have c8b1 : decide (0 < (rdOf ByteArray.empty l0 x9_1).size) = true := decide_eq_true (by omega)
                    clear c8
                    by_cases c10 : (bt (rdOf ByteArray.empty l0 x9_1) 0) = 42
                    · rw [if_pos c10] at H
                      have c10b0 : ((bt (rdOf ByteArray.empty l0 x9_1) 0) == 42) = true := beq_iff_eq.mpr c10
                      have c10b1 : ((bt (rdOf ByteArray.empty l0 x9_1) 0) != 42) = false := bne_eq_false_iff_eq.mpr c10
                      clear c10
                      have H' := Aside0.mk H
                      clear H
                      have p9 : 0 ≤ (0 : Int) := (by omega)
                      have q9 : 0 < (rdOf ByteArray.empty l0 x9_1).size := (by have : (0 : Int) < ((rdOf ByteArray.empty l0 x9_1).size : Int) := of_decide_eq_true (by first | (with_reducible assumption) | assumption); omega)
                      have hx9 : ∀ h : 0 < (rdOf ByteArray.empty l0 x9_1).size, (((rdOf ByteArray.empty l0 x9_1)[0]'h).toNat : Int) = bt (rdOf ByteArray.empty l0 x9_1) 0 := bt_at (rdOf ByteArray.empty l0 x9_1) 0
                      clear p9
                      have qi9 : (0 < ((rdOf ByteArray.empty l0 x9_1).size : Int)) = True := eq_true (of_decide_eq_true (by first | (with_reducible assumption) | assumption))
                      replace q9 := eq_true q9
                      go_wp2
                      go_roundg kj4
                      case measure => have := HK1.out; have := HJ4.out; omega
                      case rel => exact ⟨(true), (x3_1), (wrap64 (x9_1 + 1)), (by first | rfl | (simp; done) | (simp [*]; done)), (by first | rfl | (simp; done) | (simp [*]; done)), (by first | rfl | (simp; done) | (simp [*]; done)), H', ⟨by have := HK1.out; have := HJ4.out; omega⟩, by repeat (first | exact Drawn0.refl _ | apply Drawn0.step)⟩
                    · rw [if_neg c10] at H
                      have c10b0 : ((bt (rdOf ByteArray.empty l0 x9_1) 0) == 42) = false := beq_eq_false_iff_ne.mpr c10
                      have c10b1 : ((bt (rdOf ByteArray.empty l0 x9_1) 0) != 42) = true := bne_iff_ne.mpr c10
                      by_cases c11 : (bt (rdOf ByteArray.empty l0 x9_1) 0) = 62
                      · rw [if_pos c11] at H
                        have c11b0 : ((bt (rdOf ByteArray.empty l0 x9_1) 0) == 62) = true := beq_iff_eq.mpr c11
                        have c11b1 : ((bt (rdOf ByteArray.empty l0 x9_1) 0) != 62) = false := bne_eq_false_iff_eq.mpr c11
                        clear c11
                        have H' := Aside0.mk H
                        clear H
                        have p9 : 0 ≤ (0 : Int) := (by omega)
                        have q9 : 0 < (rdOf ByteArray.empty l0 x9_1).size := (by have : (0 : Int) < ((rdOf ByteArray.empty l0 x9_1).size : Int) := of_decide_eq_true (by first | (with_reducible assumption) | assumption); omega)
                        have hx9 : ∀ h : 0 < (rdOf ByteArray.empty l0 x9_1).size, (((rdOf ByteArray.empty l0 x9_1)[0]'h).toNat : Int) = bt (rdOf ByteArray.empty l0 x9_1) 0 := bt_at (rdOf ByteArray.empty l0 x9_1) 0
                        clear p9
                        have qi9 : (0 < ((rdOf ByteArray.empty l0 x9_1).size : Int)) = True := eq_true (of_decide_eq_true (by first | (with_reducible assumption) | assumption))
                        replace q9 := eq_true q9
                        go_wp2
                        go_roundg kj4
                        case measure => have := HK1.out; have := HJ4.out; omega
                        case rel => exact ⟨(x2_1), (true), (wrap64 (x9_1 + 1)), (by first | rfl | (simp; done) | (simp [*]; done)), (by first | rfl | (simp; done) | (simp [*]; done)), (by first | rfl | (simp; done) | (simp [*]; done)), H', ⟨by have := HK1.out; have := HJ4.out; omega⟩, by repeat (first | exact Drawn0.refl _ | apply Drawn0.step)⟩
                      · rw [if_neg c11] at H
                        have c11b0 : ((bt (rdOf ByteArray.empty l0 x9_1) 0) == 62) = false := beq_eq_false_iff_ne.mpr c11
                        have c11b1 : ((bt (rdOf ByteArray.empty l0 x9_1) 0) != 62) = true := bne_iff_ne.mpr c11
                        have H' := Aside0.mk H
                        clear H
                        have p9 : 0 ≤ (0 : Int) := (by omega)
                        have q9 : 0 < (rdOf ByteArray.empty l0 x9_1).size := (by have : (0 : Int) < ((rdOf ByteArray.empty l0 x9_1).size : Int) := of_decide_eq_true (by first | (with_reducible assumption) | assumption); omega)
                        have hx9 : ∀ h : 0 < (rdOf ByteArray.empty l0 x9_1).size, (((rdOf ByteArray.empty l0 x9_1)[0]'h).toNat : Int) = bt (rdOf ByteArray.empty l0 x9_1) 0 := bt_at (rdOf ByteArray.empty l0 x9_1) 0
                        clear p9
                        have qi9 : (0 < ((rdOf ByteArray.empty l0 x9_1).size : Int)) = True := eq_true (of_decide_eq_true (by first | (with_reducible assumption) | assumption))
                        replace q9 := eq_true q9
                        go_wp2
                        go_roundg kj4
                        case measure => have := HK1.out; have := HJ4.out; omega
                        case rel => exact ⟨(x2_1), (x3_1), (wrap64 (x9_1 + 1)), (by first | rfl | (simp; done) | (simp [*]; done)), (by first | rfl | (simp; done) | (simp [*]; done)), (by first | rfl | (simp; done) | (simp [*]; done)), H', ⟨by have := HK1.out; have := HJ4.out; omega⟩, by repeat (first | exact Drawn0.refl _ | apply Drawn0.step)⟩
                  · rw [if_neg c8] at H
                    exact absurd H (by simp)
          · rw [if_neg c4] at H
            exact absurd H (by simp)
        · rw [if_neg c3] at H
          exact absurd H (by simp)
      · rw [if_neg c2] at H
        have c2b0 : decide (x9_1 < (l0.length : Int)) = false := decide_eq_false c2
        clear c2
        simp only [Option.some.injEq, Prod.mk.injEq] at H
        obtain ⟨rfl, rfl⟩ := H
        go_wp2
        go_ret2
        exact ⟨by first | rfl | (simp; done) | (simp [*]; done), by repeat (first | exact Drawn0.refl _ | apply Drawn0.step)⟩

-- NOT PRINTED: function 79 (bytealg_abigen_runtime_cmpstring)

-- NOT PRINTED: function 78 (bytealg_CompareString)

/-! ### strings_Compare: function 71 -/
/-- strings.Compare, by the shelf's contract. -/
def strings_Compare.f (a0 a1 : ByteArray) : Option Int := some (Lib.compareBytes a0.data.toList a1.data.toList)
theorem strings_Compare.calls (a0 a1 : ByteArray) (r : Int) (w : World) (h : strings_Compare.f a0 a1 = some r) :
    Calls Try.prog 71 #[.string a0, .string a1] w fun e w' => e = .returned (.int .i64 r) ∧ Drawn0 w w' := by
  unfold strings_Compare.f at h
  obtain rfl := Option.some.inj h
  exact (Try.strings_Compare a0 a1 w).mono fun e w' hh => ⟨hh.1, ⟨⟨0, hh.2⟩⟩⟩


end Go.Proofs.Ytaobajfdnidkfaa.PFnCollide
