-- Written by hprint.py (this session's program, over the kit's printing program, with this session's own contracts in it). Not trusted: Lean checks it.
import Derived.Test.YtcnbnljlopopkaaDoorPFnListMatchx0
import Derived.Test.YtcnbnljlopopkaaDoorPFnListMatchx1
namespace Go.Proofs.YtcnbnljlopopkaaDoor.PFnListMatch
open Go.RowKit Go.Proofs.YtcnbnljlopopkaaDoorW.PrintWords Go.Proofs.YtcnbnljlopopkaaDoorW.PrintLast Go.Proofs.YtcnbnljlopopkaaDoorW.PrintMore
attribute [local go_sem] max2_int min2_int max_two min_two max_three min_three max_four min_four   -- for this text's walks alone
set_option linter.unusedVariables false
set_option linter.unusedSimpArgs false

/-! ### laws_tame: function 43 -/
mutual
def laws_tame.l0 : Nat → List ByteArray → Int → Option (Bool)
 | 0, _, _ => none
 | k + 1, x3, x4 => if x4 < (x3.length : Int) then (laws_tame.l1 k x3 x4 0) else (some true)
def laws_tame.l1 : Nat → List ByteArray → Int → Int → Option (Bool)
 | 0, _, _, _ => none
 | k + 1, x3, x4, x5 => if 0 ≤ x4 then (if x4 < (x3.length : Int) then (if x5 < ((rdOf ByteArray.empty x3 x4).size : Int) then (laws_tame.j2 k x3 x4 x5 (decide (((rdOf ByteArray.empty x3 x4).size : Int) > 1))) else (laws_tame.j2 k x3 x4 x5 false)) else (none)) else (none)
def laws_tame.j2 : Nat → List ByteArray → Int → Int → Bool → Option (Bool)
 | 0, _, _, _, _ => none
 | k + 1, x3, x4, x5, x28 => if x28 = true then (if 0 ≤ x4 then (if x4 < (x3.length : Int) then (if 0 ≤ x5 then (if x5 < ((rdOf ByteArray.empty x3 x4).size : Int) then (if (bt (rdOf ByteArray.empty x3 x4) x5) = 42 then (some false) else (if (bt (rdOf ByteArray.empty x3 x4) x5) = 62 then (some false) else (laws_tame.l1 k x3 x4 (wrap64 (x5 + 1))))) else (none)) else (none)) else (none)) else (none)) else (laws_tame.l0 k x3 (wrap64 (x4 + 1)))
end
def laws_tame.f (k : Nat) (a0 : ByteArray) : Option (Bool) := (spec_Tokens.f k a0).bind fun t126 => (laws_tame.l0 k t126 0)
theorem laws_tame.mono_l : ∀ k, (∀ y0 y1, LeO (laws_tame.l0 k y0 y1) (laws_tame.l0 (k + 1) y0 y1)) ∧ (∀ y0 y1 y2, LeO (laws_tame.l1 k y0 y1 y2) (laws_tame.l1 (k + 1) y0 y1 y2)) ∧ (∀ y0 y1 y2 y3, LeO (laws_tame.j2 k y0 y1 y2 y3) (laws_tame.j2 (k + 1) y0 y1 y2 y3))
 | 0 => ⟨fun _ _ r h => by simp [laws_tame.l0] at h, fun _ _ _ r h => by simp [laws_tame.l1] at h, fun _ _ _ _ r h => by simp [laws_tame.j2] at h⟩
 | k + 1 => by
  obtain ⟨ih0, ih1, ih2⟩ := laws_tame.mono_l k
  refine ⟨?_, ?_, ?_⟩
  ·
   intro y0 y1
   unfold laws_tame.l0
   repeat' first
   | (with_reducible exact ih0 _ _)
   | (with_reducible exact ih1 _ _ _)
   | (with_reducible exact ih2 _ _ _ _)
   | (with_reducible exact spec_Tokens.mono _ _)
   | (with_reducible exact LeO.refl _)
   | (with_reducible exact LeO.none _)
   | (with_reducible refine LeO.ite ?_ ?_)
   | (with_reducible refine LeO.bind ?_ (fun _ => ?_))
   | exact ih0 _ _
   | exact ih1 _ _ _
   | exact ih2 _ _ _ _
   | exact spec_Tokens.mono _ _
   | exact LeO.none _
   | refine LeO.ite ?_ ?_
   | refine LeO.bind ?_ (fun _ => ?_)
  ·
   intro y0 y1 y2
   unfold laws_tame.l1
   repeat' first
   | (with_reducible exact ih0 _ _)
   | (with_reducible exact ih1 _ _ _)
   | (with_reducible exact ih2 _ _ _ _)
   | (with_reducible exact spec_Tokens.mono _ _)
   | (with_reducible exact LeO.refl _)
   | (with_reducible exact LeO.none _)
   | (with_reducible refine LeO.ite ?_ ?_)
   | (with_reducible refine LeO.bind ?_ (fun _ => ?_))
   | exact ih0 _ _
   | exact ih1 _ _ _
   | exact ih2 _ _ _ _
   | exact spec_Tokens.mono _ _
   | exact LeO.none _
   | refine LeO.ite ?_ ?_
   | refine LeO.bind ?_ (fun _ => ?_)
  ·
   intro y0 y1 y2 y3
   unfold laws_tame.j2
   repeat' first
   | (with_reducible exact ih0 _ _)
   | (with_reducible exact ih1 _ _ _)
   | (with_reducible exact ih2 _ _ _ _)
   | (with_reducible exact spec_Tokens.mono _ _)
   | (with_reducible exact LeO.refl _)
   | (with_reducible exact LeO.none _)
   | (with_reducible refine LeO.ite ?_ ?_)
   | (with_reducible refine LeO.bind ?_ (fun _ => ?_))
   | exact ih0 _ _
   | exact ih1 _ _ _
   | exact ih2 _ _ _ _
   | exact spec_Tokens.mono _ _
   | exact LeO.none _
   | refine LeO.ite ?_ ?_
   | refine LeO.bind ?_ (fun _ => ?_)
theorem laws_tame.mono : ∀ a0 k, LeO (laws_tame.f k a0) (laws_tame.f (k + 1) a0) := by
 intro a0 k
 obtain ⟨ih0, ih1, ih2⟩ := laws_tame.mono_l k
 unfold laws_tame.f
 repeat' first
   | (with_reducible exact ih0 _ _)
   | (with_reducible exact ih1 _ _ _)
   | (with_reducible exact ih2 _ _ _ _)
   | (with_reducible exact spec_Tokens.mono _ _)
   | (with_reducible exact LeO.refl _)
   | (with_reducible exact LeO.none _)
   | (with_reducible refine LeO.ite ?_ ?_)
   | (with_reducible refine LeO.bind ?_ (fun _ => ?_))
   | exact ih0 _ _
   | exact ih1 _ _ _
   | exact ih2 _ _ _ _
   | exact spec_Tokens.mono _ _
   | exact LeO.none _
   | refine LeO.ite ?_ ?_
   | refine LeO.bind ?_ (fun _ => ?_)
set_option maxHeartbeats 8000000 in
set_option maxRecDepth 100000 in
theorem laws_tame.calls (k : Nat) (a0 : ByteArray) (r : Bool) (w : World) (h : laws_tame.f k a0 = some r) :
  Calls Tryd.prog 43 #[.string a0] w fun e w' => e = .returned (.bool r) ∧ Below w.heap.size w w' := by
 have HB := Aside0.mk (Below.refl w.heap.size w)
 have H : ((spec_Tokens.f k a0).bind fun t126 => (laws_tame.l0 k t126 0)) = some r := h
 clear h
 replace H := Option.bind_eq_some_iff.mp H
 obtain ⟨t126, A20, H⟩ := H
 replace H : (laws_tame.l0 k t126 0) = some r := H
 have A2 := Aside0.mk A20
 clear A20
 have H' := Aside0.mk H
 clear H
 go_enter Tryd.func43, Tryd.ntmps43
 go_wp2_with (first | ((with_reducible refine gate_callee (f := 32) rfl ?_); refine goesL_ (some 7) rfl rfl Tryd.func32 (by kernel_rfl) rfl #[.string a0] rfl (by (try simp only [List.map_toArray, List.map_cons, List.map_nil]); first | done | rfl | (simp only [List.length_drop, List.length_take]; rfl)) ?_; (with_reducible refine (spec_Tokens.calls k a0 t126 _ A2.out).mono ?_); rintro e w3 ⟨v127, rfl, ho0, hb⟩; refine ⟨_, rfl, ?_⟩; have n0_ := Aside0.mk (Kd.R_lower ho0 (below_size (by repeat (first | (with_reducible first | exact HB.out | apply below_alloc | apply pw_below_drewN | apply below_drew1) | exact HB.out)))); have n1_ := Aside0.mk (below_step (by repeat (first | (with_reducible first | exact HB.out | apply below_alloc | apply pw_below_drewN | apply below_drew1) | exact HB.out)) hb); clear HB; have HO128 := n0_; have HB := n1_; clear n0_ n1_; (try clear hb); (try clear hb2); (try clear hk); (try clear hi); (try clear ho0)))
 go_loopg [4] k (fun kq v4 w' => ∃ (x4_1 : Int), v4 = .int .i64 x4_1 ∧ Aside0 (laws_tame.l0 kq t126 x4_1 = some r) ∧ Aside0 (kq ≤ k) ∧ Aside0 (Kd.R Kd.string 9 w' w.heap.size (fun _ => True) v127 t126) ∧ Aside0 (Below w.heap.size w w'))
 case atStart => exact ⟨(0), (by first | rfl | (simp; done) | (simp [*]; done)), H', ⟨Nat.le_refl _⟩, ⟨by (with_reducible repeat (first | apply Kd.R_alloc | apply Kd.R_drewN | apply Kd.R_drew)); exact HO128.out⟩, ⟨by repeat (first | (with_reducible first | exact HB.out | apply below_alloc | apply pw_below_drewN | apply below_drew1) | exact HB.out)⟩⟩
 case round =>
  clear H'
  try clear p2
  try clear c3
  obtain ⟨x4_1, rfl, HA, HK1, HO_3, HB⟩ := hrel
  cases gk with
  | zero => exact absurd HA.out (by simp [laws_tame.l0])
  | succ k1 =>
   have H := HA.out
   clear HA
   simp only [laws_tame.l0] at H
   by_cases c4 : x4_1 < (t126.length : Int)
   ·
    rw [if_pos c4] at H
    have c4b0 : decide (x4_1 < (t126.length : Int)) = true := decide_eq_true c4
    clear c4
    have H' := Aside0.mk H
    clear H
    obtain ⟨Ao5, co5, eo5⟩ := Kd.R_slice HO_3.out
    subst eo5
    go_wp2
    go_loopg [5] k1 (fun kq v5 w' => ∃ (x5_2 : Int), v5 = .int .i64 x5_2 ∧ Aside0 (laws_tame.l1 kq t126 x4_1 x5_2 = some r) ∧ Aside0 (kq ≤ k1) ∧ Aside0 (Kd.R Kd.string 9 w' w.heap.size (fun _ => True) (.slice Ao5 t126.length co5) t126) ∧ Aside0 (Below w.heap.size w w'))
    case atStart => exact ⟨(0), (by first | rfl | (simp; done) | (simp [*]; done)), H', ⟨Nat.le_refl _⟩, ⟨by (with_reducible repeat (first | apply Kd.R_alloc | apply Kd.R_drewN | apply Kd.R_drew)); exact HO_3.out⟩, ⟨by repeat (first | (with_reducible first | exact HB.out | apply below_alloc | apply pw_below_drewN | apply below_drew1) | exact HB.out)⟩⟩
    case round =>
     clear H'
     try clear p2
     try clear c3
     try clear c4
     try clear c4b0
     try clear p2
     obtain ⟨x5_2, rfl, HA, HK2, HO_3, HB⟩ := hrel
     cases gk with
     | zero => exact absurd HA.out (by simp [laws_tame.l1])
     | succ k2 =>
      have H := HA.out
      clear HA
      simp only [laws_tame.l1] at H
      have HC6 := Aside0.mk H
      clear H
      go_upto_region 6 with (fail)
      go_cut [28] (fun v28 wc => ∃ (kq : Nat) (x28_5 : Bool), v28 = .bool x28_5 ∧ Aside0 (laws_tame.j2 kq t126 x4_1 x5_2 x28_5 = some r) ∧ Aside0 (kq ≤ k2) ∧ Aside0 (Kd.R Kd.string 9 wc w.heap.size (fun _ => True) (.slice Ao5 t126.length co5) t126) ∧ Aside0 (Below w.heap.size w wc))
      case first =>
       have H := HC6.out
       clear HC6
       by_cases c7 : 0 ≤ x4_1
       ·
        rw [if_pos c7] at H
        have c7b0 : decide (0 ≤ x4_1) = true := decide_eq_true c7
        clear c7
        (first | rw [c7b0] | (simp only [i64_w, i32_w]; rw [c7b0]) | skip)
        by_cases c8 : x4_1 < (t126.length : Int)
        ·
         rw [if_pos c8] at H
         have c8b0 : decide (x4_1 < (t126.length : Int)) = true := decide_eq_true c8
         clear c8
         by_cases c9 : x5_2 < ((rdOf ByteArray.empty t126 x4_1).size : Int)
         ·
          rw [if_pos c9] at H
          have c9b0 : decide (x5_2 < ((rdOf ByteArray.empty t126 x4_1).size : Int)) = true := decide_eq_true c9
          clear c9
          have H' := Aside0.mk H
          clear H
          have p129 : 0 ≤ (x4_1 : Int) := of_decide_eq_true (by first | (with_reducible assumption) | assumption)
          have q129 : x4_1 < (t126.length : Int) := of_decide_eq_true (by first | (with_reducible assumption) | assumption)
          obtain ⟨ad129, e129, hx129_0⟩ := Kd.at_string (Kd.R_reads' HO_3.out).2.2 x4_1 p129 q129
          cases e129
          replace p129 := eq_true p129
          replace q129 := eq_true q129
          have p130 : 0 ≤ (x4_1 : Int) := of_decide_eq_true (by first | (with_reducible assumption) | assumption)
          have q130 : x4_1 < (t126.length : Int) := of_decide_eq_true (by first | (with_reducible assumption) | assumption)
          obtain ⟨ad130, e130, hx130_0⟩ := Kd.at_string (Kd.R_reads' HO_3.out).2.2 x4_1 p130 q130
          obtain rfl : ad129 = ad130 := (by injection e130)
          replace p130 := eq_true p130
          replace q130 := eq_true q130
          go_wp2
          go_meet
          case rel => exact ⟨_, (decide (((rdOf ByteArray.empty t126 x4_1).size : Int) > 1)), (by first | rfl | (simp; done) | (simp [*]; done)), H', ⟨by have := HK1.out; have := HK2.out; first | omega | exact Nat.le_refl _⟩, ⟨by (with_reducible repeat (first | apply Kd.R_alloc | apply Kd.R_drewN | apply Kd.R_drew)); exact HO_3.out⟩, ⟨by repeat (first | (with_reducible first | exact HB.out | apply below_alloc | apply pw_below_drewN | apply below_drew1) | exact HB.out)⟩⟩
         ·
          rw [if_neg c9] at H
          have c9b0 : decide (x5_2 < ((rdOf ByteArray.empty t126 x4_1).size : Int)) = false := decide_eq_false c9
          clear c9
          have H' := Aside0.mk H
          clear H
          have p129 : 0 ≤ (x4_1 : Int) := of_decide_eq_true (by first | (with_reducible assumption) | assumption)
          have q129 : x4_1 < (t126.length : Int) := of_decide_eq_true (by first | (with_reducible assumption) | assumption)
          obtain ⟨ad129, e129, hx129_0⟩ := Kd.at_string (Kd.R_reads' HO_3.out).2.2 x4_1 p129 q129
          cases e129
          replace p129 := eq_true p129
          replace q129 := eq_true q129
          go_wp2
          go_meet
          case rel => exact ⟨_, (false), (by first | rfl | (simp; done) | (simp [*]; done)), H', ⟨by have := HK1.out; have := HK2.out; first | omega | exact Nat.le_refl _⟩, ⟨by (with_reducible repeat (first | apply Kd.R_alloc | apply Kd.R_drewN | apply Kd.R_drew)); exact HO_3.out⟩, ⟨by repeat (first | (with_reducible first | exact HB.out | apply below_alloc | apply pw_below_drewN | apply below_drew1) | exact HB.out)⟩⟩
        ·
         rw [if_neg c8] at H
         exact absurd H (by simp)
       ·
        rw [if_neg c7] at H
        exact absurd H (by simp)
      case rest =>
       clear HC6
       try clear p1
       try clear q1
       try clear hx1
       try clear p2
       try clear c3
       try clear c4
       try clear c4b0
       try clear c7
       try clear c7b0
       try clear c8
       try clear c8b0
       try clear c9
       try clear c9b0
       try clear hx129_0
       try clear hx130_0
       try clear p129
       try clear p130
       try clear p2
       try clear q129
       try clear q130
       obtain ⟨kq, x28_5, rfl, HA, HJ5, HO_3, HB⟩ := hcut
       cases kq with
       | zero => exact absurd HA.out (by simp [laws_tame.j2])
       | succ kj5 =>
        have H := HA.out
        clear HA
        simp only [laws_tame.j2] at H
        by_cases c10 : x28_5 = true
        ·
         subst c10
         have H1 : (if 0 ≤ x4_1 then (if x4_1 < (t126.length : Int) then (if 0 ≤ x5_2 then (if x5_2 < ((rdOf ByteArray.empty t126 x4_1).size : Int) then (if (bt (rdOf ByteArray.empty t126 x4_1) x5_2) = 42 then (some false) else (if (bt (rdOf ByteArray.empty t126 x4_1) x5_2) = 62 then (some false) else (laws_tame.l1 kj5 t126 x4_1 (wrap64 (x5_2 + 1))))) else (none)) else (none)) else (none)) else (none)) = some r := by rw [if_pos rfl] at H; exact H
         clear H
         have H := H1
         clear H1
         by_cases c11 : 0 ≤ x4_1
         ·
          rw [if_pos c11] at H
          have c11b0 : decide (0 ≤ x4_1) = true := decide_eq_true c11
          clear c11
          by_cases c12 : x4_1 < (t126.length : Int)
          ·
           rw [if_pos c12] at H
           have c12b0 : decide (x4_1 < (t126.length : Int)) = true := decide_eq_true c12
           clear c12
           by_cases c13 : 0 ≤ x5_2
           ·
            rw [if_pos c13] at H
            have c13b0 : decide (0 ≤ x5_2) = true := decide_eq_true c13
            clear c13
            by_cases c14 : x5_2 < ((rdOf ByteArray.empty t126 x4_1).size : Int)
            ·
             rw [if_pos c14] at H
             have c14b0 : decide (x5_2 < ((rdOf ByteArray.empty t126 x4_1).size : Int)) = true := decide_eq_true c14
             clear c14
             by_cases c16 : (bt (rdOf ByteArray.empty t126 x4_1) x5_2) = 42
             ·
              rw [if_pos c16] at H
              have c16b0 : ((bt (rdOf ByteArray.empty t126 x4_1) x5_2) == 42) = true := beq_iff_eq.mpr c16
              have c16b1 : ((bt (rdOf ByteArray.empty t126 x4_1) x5_2) != 42) = false := bne_eq_false_iff_eq.mpr c16
              clear c16
              obtain rfl := Option.some.inj H
              have p131 : 0 ≤ (x4_1 : Int) := of_decide_eq_true (by first | (with_reducible assumption) | assumption)
              have q131 : x4_1 < (t126.length : Int) := of_decide_eq_true (by first | (with_reducible assumption) | assumption)
              obtain ⟨ad131, e131, hx131_0⟩ := Kd.at_string (Kd.R_reads' HO_3.out).2.2 x4_1 p131 q131
              cases e131
              replace p131 := eq_true p131
              replace q131 := eq_true q131
              have p15 : 0 ≤ (x5_2 : Int) := of_decide_eq_true (by first | (with_reducible assumption) | assumption)
              have q15 : x5_2 < ((rdOf ByteArray.empty t126 x4_1).size : Int) := of_decide_eq_true (by first | (with_reducible assumption) | assumption)
              have hx15 := bt_at (rdOf ByteArray.empty t126 x4_1) x5_2
              replace p15 := eq_true p15
              replace q15 := eq_true q15
              go_wp2
              go_ret
              exact ⟨by first | rfl | (simp [errW_none, errW_some] <;> rfl) | (simp [*, errW_none, errW_some] <;> rfl) | (simp [errW_none, errW_some]; generalize ByteArray.toList _ = l_; cases l_ <;> rfl), by repeat (first | (with_reducible first | exact HB.out | apply below_alloc | apply pw_below_drewN | apply below_drew1) | exact HB.out)⟩
             ·
              rw [if_neg c16] at H
              have c16b0 : ((bt (rdOf ByteArray.empty t126 x4_1) x5_2) == 42) = false := beq_eq_false_iff_ne.mpr c16
              have c16b1 : ((bt (rdOf ByteArray.empty t126 x4_1) x5_2) != 42) = true := bne_iff_ne.mpr c16
              by_cases c18 : (bt (rdOf ByteArray.empty t126 x4_1) x5_2) = 62
              ·
               rw [if_pos c18] at H
               have c18b0 : ((bt (rdOf ByteArray.empty t126 x4_1) x5_2) == 62) = true := beq_iff_eq.mpr c18
               have c18b1 : ((bt (rdOf ByteArray.empty t126 x4_1) x5_2) != 62) = false := bne_eq_false_iff_eq.mpr c18
               clear c18
               obtain rfl := Option.some.inj H
               have p131 : 0 ≤ (x4_1 : Int) := of_decide_eq_true (by first | (with_reducible assumption) | assumption)
               have q131 : x4_1 < (t126.length : Int) := of_decide_eq_true (by first | (with_reducible assumption) | assumption)
               obtain ⟨ad131, e131, hx131_0⟩ := Kd.at_string (Kd.R_reads' HO_3.out).2.2 x4_1 p131 q131
               cases e131
               replace p131 := eq_true p131
               replace q131 := eq_true q131
               have p15 : 0 ≤ (x5_2 : Int) := of_decide_eq_true (by first | (with_reducible assumption) | assumption)
               have q15 : x5_2 < ((rdOf ByteArray.empty t126 x4_1).size : Int) := of_decide_eq_true (by first | (with_reducible assumption) | assumption)
               have hx15 := bt_at (rdOf ByteArray.empty t126 x4_1) x5_2
               replace p15 := eq_true p15
               replace q15 := eq_true q15
               have p132 : 0 ≤ (x4_1 : Int) := of_decide_eq_true (by first | (with_reducible assumption) | assumption)
               have q132 : x4_1 < (t126.length : Int) := of_decide_eq_true (by first | (with_reducible assumption) | assumption)
               obtain ⟨ad132, e132, hx132_0⟩ := Kd.at_string (Kd.R_reads' HO_3.out).2.2 x4_1 p132 q132
               obtain rfl : ad131 = ad132 := (by injection e132)
               replace p132 := eq_true p132
               replace q132 := eq_true q132
               have p17 : 0 ≤ (x5_2 : Int) := of_decide_eq_true (by first | (with_reducible assumption) | assumption)
               have q17 : x5_2 < ((rdOf ByteArray.empty t126 x4_1).size : Int) := of_decide_eq_true (by first | (with_reducible assumption) | assumption)
               have hx17 := bt_at (rdOf ByteArray.empty t126 x4_1) x5_2
               replace p17 := eq_true p17
               replace q17 := eq_true q17
               go_wp2
               go_ret
               exact ⟨by first | rfl | (simp [errW_none, errW_some] <;> rfl) | (simp [*, errW_none, errW_some] <;> rfl) | (simp [errW_none, errW_some]; generalize ByteArray.toList _ = l_; cases l_ <;> rfl), by repeat (first | (with_reducible first | exact HB.out | apply below_alloc | apply pw_below_drewN | apply below_drew1) | exact HB.out)⟩
              ·
               rw [if_neg c18] at H
               have c18b0 : ((bt (rdOf ByteArray.empty t126 x4_1) x5_2) == 62) = false := beq_eq_false_iff_ne.mpr c18
               have c18b1 : ((bt (rdOf ByteArray.empty t126 x4_1) x5_2) != 62) = true := bne_iff_ne.mpr c18
               have H' := Aside0.mk H
               clear H
               have p131 : 0 ≤ (x4_1 : Int) := of_decide_eq_true (by first | (with_reducible assumption) | assumption)
               have q131 : x4_1 < (t126.length : Int) := of_decide_eq_true (by first | (with_reducible assumption) | assumption)
               obtain ⟨ad131, e131, hx131_0⟩ := Kd.at_string (Kd.R_reads' HO_3.out).2.2 x4_1 p131 q131
               cases e131
               replace p131 := eq_true p131
               replace q131 := eq_true q131
               have p15 : 0 ≤ (x5_2 : Int) := of_decide_eq_true (by first | (with_reducible assumption) | assumption)
               have q15 : x5_2 < ((rdOf ByteArray.empty t126 x4_1).size : Int) := of_decide_eq_true (by first | (with_reducible assumption) | assumption)
               have hx15 := bt_at (rdOf ByteArray.empty t126 x4_1) x5_2
               replace p15 := eq_true p15
               replace q15 := eq_true q15
               have p132 : 0 ≤ (x4_1 : Int) := of_decide_eq_true (by first | (with_reducible assumption) | assumption)
               have q132 : x4_1 < (t126.length : Int) := of_decide_eq_true (by first | (with_reducible assumption) | assumption)
               obtain ⟨ad132, e132, hx132_0⟩ := Kd.at_string (Kd.R_reads' HO_3.out).2.2 x4_1 p132 q132
               obtain rfl : ad131 = ad132 := (by injection e132)
               replace p132 := eq_true p132
               replace q132 := eq_true q132
               have p17 : 0 ≤ (x5_2 : Int) := of_decide_eq_true (by first | (with_reducible assumption) | assumption)
               have q17 : x5_2 < ((rdOf ByteArray.empty t126 x4_1).size : Int) := of_decide_eq_true (by first | (with_reducible assumption) | assumption)
               have hx17 := bt_at (rdOf ByteArray.empty t126 x4_1) x5_2
               replace p17 := eq_true p17
               replace q17 := eq_true q17
               go_wp2
               go_roundg kj5
               case measure => have := HK1.out; have := HK2.out; have := HJ5.out; omega
               case rel => exact ⟨(wrap64 (x5_2 + 1)), (by first | rfl | (simp; done) | (simp [*]; done)), H', ⟨by have := HK1.out; have := HK2.out; have := HJ5.out; omega⟩, ⟨by (with_reducible repeat (first | apply Kd.R_alloc | apply Kd.R_drewN | apply Kd.R_drew)); exact HO_3.out⟩, ⟨by repeat (first | (with_reducible first | exact HB.out | apply below_alloc | apply pw_below_drewN | apply below_drew1) | exact HB.out)⟩⟩
            ·
             rw [if_neg c14] at H
             exact absurd H (by simp)
           ·
            rw [if_neg c13] at H
            exact absurd H (by simp)
          ·
           rw [if_neg c12] at H
           exact absurd H (by simp)
         ·
          rw [if_neg c11] at H
          exact absurd H (by simp)
        ·
         replace c10 := Bool.eq_false_iff.mpr c10
         subst c10
         have H1 : (laws_tame.l0 kj5 t126 (wrap64 (x4_1 + 1))) = some r := by rw [if_neg (show ¬ (false = true) by decide)] at H; exact H
         clear H
         have H := H1
         clear H1
         have H' := Aside0.mk H
         clear H
         go_wp2
         go_roundg kj5
         case measure => have := HK1.out; have := HK2.out; have := HJ5.out; omega
         case rel => exact ⟨(wrap64 (x4_1 + 1)), (by first | rfl | (simp; done) | (simp [*]; done)), H', ⟨by have := HK1.out; have := HK2.out; have := HJ5.out; omega⟩, ⟨by (with_reducible repeat (first | apply Kd.R_alloc | apply Kd.R_drewN | apply Kd.R_drew)); exact HO_3.out⟩, ⟨by repeat (first | (with_reducible first | exact HB.out | apply below_alloc | apply pw_below_drewN | apply below_drew1) | exact HB.out)⟩⟩
   ·
    rw [if_neg c4] at H
    have c4b0 : decide (x4_1 < (t126.length : Int)) = false := decide_eq_false c4
    clear c4
    obtain rfl := Option.some.inj H
    obtain ⟨Ao19, co19, eo19⟩ := Kd.R_slice HO_3.out
    subst eo19
    go_wp2
    go_ret
    exact ⟨by first | rfl | (simp [errW_none, errW_some] <;> rfl) | (simp [*, errW_none, errW_some] <;> rfl) | (simp [errW_none, errW_some]; generalize ByteArray.toList _ = l_; cases l_ <;> rfl), by repeat (first | (with_reducible first | exact HB.out | apply below_alloc | apply pw_below_drewN | apply below_drew1) | exact HB.out)⟩

/-! ### laws_deeds: function 26 -/
def laws_deeds.l0 : Nat → List (S51) → Int → Option (Bool)
 | 0, _, _ => none
 | k + 1, x0, x3 => if x3 < (x0.length : Int) then (if 0 ≤ x3 then (if ((rd_T51 x0 x3).f0) < 0 then (some false) else (if ((rd_T51 x0 x3).f0) > 1 then (some false) else (if (((rd_T51 x0 x3).f1).size : Int) > 80 then (some false) else ((laws_clean.f k ((rd_T51 x0 x3).f1)).bind fun t137 => (if t137 = true then ((laws_tame.f k ((rd_T51 x0 x3).f1)).bind fun t139 => (if t139 = true then (laws_deeds.l0 k x0 (wrap64 (x3 + 1))) else (some false))) else (some false)))))) else (none)) else (some true)
def laws_deeds.f (k : Nat) (l0 : List (S51)) : Option (Bool) := if (l0.length : Int) > 40 then (some false) else (laws_deeds.l0 k l0 0)
theorem laws_deeds.mono_l : ∀ k, (∀ y0 y1, LeO (laws_deeds.l0 k y0 y1) (laws_deeds.l0 (k + 1) y0 y1))
 | 0 => fun _ _ r h => by simp [laws_deeds.l0] at h
 | k + 1 => by
  have ih0 := laws_deeds.mono_l k
  ·
   intro y0 y1
   unfold laws_deeds.l0
   repeat' first
   | (with_reducible exact ih0 _ _)
   | (with_reducible exact laws_clean.mono _ _)
   | (with_reducible exact laws_tame.mono _ _)
   | (with_reducible exact LeO.refl _)
   | (with_reducible exact LeO.none _)
   | (with_reducible refine LeO.ite ?_ ?_)
   | (with_reducible refine LeO.bind ?_ (fun _ => ?_))
   | exact ih0 _ _
   | exact laws_clean.mono _ _
   | exact laws_tame.mono _ _
   | exact LeO.none _
   | refine LeO.ite ?_ ?_
   | refine LeO.bind ?_ (fun _ => ?_)
theorem laws_deeds.mono : ∀ a0 k, LeO (laws_deeds.f k a0) (laws_deeds.f (k + 1) a0) := by
 intro a0 k
 have ih0 := laws_deeds.mono_l k
 unfold laws_deeds.f
 repeat' first
   | (with_reducible exact ih0 _ _)
   | (with_reducible exact laws_clean.mono _ _)
   | (with_reducible exact laws_tame.mono _ _)
   | (with_reducible exact LeO.refl _)
   | (with_reducible exact LeO.none _)
   | (with_reducible refine LeO.ite ?_ ?_)
   | (with_reducible refine LeO.bind ?_ (fun _ => ?_))
   | exact ih0 _ _
   | exact laws_clean.mono _ _
   | exact laws_tame.mono _ _
   | exact LeO.none _
   | refine LeO.ite ?_ ?_
   | refine LeO.bind ?_ (fun _ => ?_)
set_option maxHeartbeats 8000000 in
set_option maxRecDepth 100000 in
theorem laws_deeds.calls (k : Nat) (A0 : Option Addr) (c0 : Nat) (l0 : List (S51)) (r : Bool) (w : World) (hr0 : Kd.C k51 w A0 l0.length l0) (hc0 : l0.length ≤ c0) (h : laws_deeds.f k l0 = some r) :
  Calls Tryd.prog 26 #[.slice A0 l0.length c0] w fun e w' => e = .returned (.bool r) ∧ Below w.heap.size w w' := by
 have HR0 := Aside0.mk hr0
 have HC0 := Aside0.mk hc0
 clear hr0 hc0
 have HB := Aside0.mk (Below.refl w.heap.size w)
 have H : (if (l0.length : Int) > 40 then (some false) else (laws_deeds.l0 k l0 0)) = some r := h
 clear h
 by_cases c2 : (l0.length : Int) > 40
 ·
  rw [if_pos c2] at H
  have c2b0 : decide (40 < (l0.length : Int)) = true := decide_eq_true c2
  have c2b1 : decide (40 < l0.length) = true := decide_eq_true (by omega)
  clear c2
  obtain rfl := Option.some.inj H
  go_enter Tryd.func26, Tryd.ntmps26
  go_wp2
  go_ret
  exact ⟨by first | rfl | (simp [errW_none, errW_some] <;> rfl) | (simp [*, errW_none, errW_some] <;> rfl) | (simp [errW_none, errW_some]; generalize ByteArray.toList _ = l_; cases l_ <;> rfl), by repeat (first | (with_reducible first | exact HB.out | apply below_alloc | apply pw_below_drewN | apply below_drew1) | exact HB.out)⟩
 ·
  rw [if_neg c2] at H
  have c2b0 : decide (40 < (l0.length : Int)) = false := decide_eq_false c2
  have c2b1 : decide (40 < l0.length) = false := decide_eq_false (by omega)
  clear c2
  have H' := Aside0.mk H
  clear H
  go_enter Tryd.func26, Tryd.ntmps26
  go_wp2
  go_loopg [3] k (fun kq v3 w' => ∃ (x3_1 : Int), v3 = .int .i64 x3_1 ∧ Aside0 (laws_deeds.l0 kq l0 x3_1 = some r) ∧ Aside0 (kq ≤ k) ∧ Aside0 (Below w.heap.size w w'))
  case atStart => exact ⟨(0), (by first | rfl | (simp; done) | (simp [*]; done)), H', ⟨Nat.le_refl _⟩, ⟨by repeat (first | (with_reducible first | exact HB.out | apply below_alloc | apply pw_below_drewN | apply below_drew1) | exact HB.out)⟩⟩
  case round =>
   clear H'
   try clear c2
   try clear c2b0
   try clear c2b1
   try clear p2
   obtain ⟨x3_1, rfl, HA, HK1, HB⟩ := hrel
   cases gk with
   | zero => exact absurd HA.out (by simp [laws_deeds.l0])
   | succ k1 =>
    have H := HA.out
    clear HA
    simp only [laws_deeds.l0] at H
    by_cases c3 : x3_1 < (l0.length : Int)
    ·
     rw [if_pos c3] at H
     have c3b0 : decide (x3_1 < (l0.length : Int)) = true := decide_eq_true c3
     clear c3
     by_cases c4 : 0 ≤ x3_1
     ·
      rw [if_pos c4] at H
      have c4b0 : decide (0 ≤ x3_1) = true := decide_eq_true c4
      clear c4
      by_cases c5 : ((rd_T51 l0 x3_1).f0) < 0
      ·
       rw [if_pos c5] at H
       have c5b0 : decide (((rd_T51 l0 x3_1).f0) < 0) = true := decide_eq_true c5
       clear c5
       obtain rfl := Option.some.inj H
       have p133 : 0 ≤ (x3_1 : Int) := of_decide_eq_true (by first | (with_reducible assumption) | assumption)
       have q133 : x3_1 < (l0.length : Int) := of_decide_eq_true (by first | (with_reducible assumption) | assumption)
       obtain ⟨ad133, e133, hx133_0, hx133_1, hx133_2⟩ := at_T51 HR0.out x3_1 p133 q133
       cases e133
       replace hx133_0 := (HB.out.cell (World.block_lt_of_cell? w _ hx133_0)).trans hx133_0
       replace hx133_1 := (HB.out.cell (World.block_lt_of_cell? w _ hx133_1)).trans hx133_1
       replace hx133_2 := (HB.out.cell (World.block_lt_of_cell? w _ hx133_2)).trans hx133_2
       replace p133 := eq_true p133
       replace q133 := eq_true q133
       go_wp2
       go_ret
       exact ⟨by first | rfl | (simp [errW_none, errW_some] <;> rfl) | (simp [*, errW_none, errW_some] <;> rfl) | (simp [errW_none, errW_some]; generalize ByteArray.toList _ = l_; cases l_ <;> rfl), by repeat (first | (with_reducible first | exact HB.out | apply below_alloc | apply pw_below_drewN | apply below_drew1) | exact HB.out)⟩
      ·
       rw [if_neg c5] at H
       have c5b0 : decide (((rd_T51 l0 x3_1).f0) < 0) = false := decide_eq_false c5
       clear c5
       by_cases c6 : ((rd_T51 l0 x3_1).f0) > 1
       ·
        rw [if_pos c6] at H
        have c6b0 : decide (1 < ((rd_T51 l0 x3_1).f0)) = true := decide_eq_true c6
        clear c6
        obtain rfl := Option.some.inj H
        have p133 : 0 ≤ (x3_1 : Int) := of_decide_eq_true (by first | (with_reducible assumption) | assumption)
        have q133 : x3_1 < (l0.length : Int) := of_decide_eq_true (by first | (with_reducible assumption) | assumption)
        obtain ⟨ad133, e133, hx133_0, hx133_1, hx133_2⟩ := at_T51 HR0.out x3_1 p133 q133
        cases e133
        replace hx133_0 := (HB.out.cell (World.block_lt_of_cell? w _ hx133_0)).trans hx133_0
        replace hx133_1 := (HB.out.cell (World.block_lt_of_cell? w _ hx133_1)).trans hx133_1
        replace hx133_2 := (HB.out.cell (World.block_lt_of_cell? w _ hx133_2)).trans hx133_2
        replace p133 := eq_true p133
        replace q133 := eq_true q133
        have p134 : 0 ≤ (x3_1 : Int) := of_decide_eq_true (by first | (with_reducible assumption) | assumption)
        have q134 : x3_1 < (l0.length : Int) := of_decide_eq_true (by first | (with_reducible assumption) | assumption)
        obtain ⟨ad134, e134, hx134_0, hx134_1, hx134_2⟩ := at_T51 HR0.out x3_1 p134 q134
        obtain rfl : ad133 = ad134 := (by injection e134)
        replace hx134_0 := (HB.out.cell (World.block_lt_of_cell? w _ hx134_0)).trans hx134_0
        replace hx134_1 := (HB.out.cell (World.block_lt_of_cell? w _ hx134_1)).trans hx134_1
        replace hx134_2 := (HB.out.cell (World.block_lt_of_cell? w _ hx134_2)).trans hx134_2
        replace p134 := eq_true p134
        replace q134 := eq_true q134
        go_wp2
        go_ret
        exact ⟨by first | rfl | (simp [errW_none, errW_some] <;> rfl) | (simp [*, errW_none, errW_some] <;> rfl) | (simp [errW_none, errW_some]; generalize ByteArray.toList _ = l_; cases l_ <;> rfl), by repeat (first | (with_reducible first | exact HB.out | apply below_alloc | apply pw_below_drewN | apply below_drew1) | exact HB.out)⟩
       ·
        rw [if_neg c6] at H
        have c6b0 : decide (1 < ((rd_T51 l0 x3_1).f0)) = false := decide_eq_false c6
        clear c6
        by_cases c7 : (((rd_T51 l0 x3_1).f1).size : Int) > 80
        ·
         rw [if_pos c7] at H
         have c7b0 : decide (80 < (((rd_T51 l0 x3_1).f1).size : Int)) = true := decide_eq_true c7
         have c7b1 : decide (80 < ((rd_T51 l0 x3_1).f1).size) = true := decide_eq_true (by omega)
         clear c7
         obtain rfl := Option.some.inj H
         have p133 : 0 ≤ (x3_1 : Int) := of_decide_eq_true (by first | (with_reducible assumption) | assumption)
         have q133 : x3_1 < (l0.length : Int) := of_decide_eq_true (by first | (with_reducible assumption) | assumption)
         obtain ⟨ad133, e133, hx133_0, hx133_1, hx133_2⟩ := at_T51 HR0.out x3_1 p133 q133
         cases e133
         replace hx133_0 := (HB.out.cell (World.block_lt_of_cell? w _ hx133_0)).trans hx133_0
         replace hx133_1 := (HB.out.cell (World.block_lt_of_cell? w _ hx133_1)).trans hx133_1
         replace hx133_2 := (HB.out.cell (World.block_lt_of_cell? w _ hx133_2)).trans hx133_2
         replace p133 := eq_true p133
         replace q133 := eq_true q133
         have p134 : 0 ≤ (x3_1 : Int) := of_decide_eq_true (by first | (with_reducible assumption) | assumption)
         have q134 : x3_1 < (l0.length : Int) := of_decide_eq_true (by first | (with_reducible assumption) | assumption)
         obtain ⟨ad134, e134, hx134_0, hx134_1, hx134_2⟩ := at_T51 HR0.out x3_1 p134 q134
         obtain rfl : ad133 = ad134 := (by injection e134)
         replace hx134_0 := (HB.out.cell (World.block_lt_of_cell? w _ hx134_0)).trans hx134_0
         replace hx134_1 := (HB.out.cell (World.block_lt_of_cell? w _ hx134_1)).trans hx134_1
         replace hx134_2 := (HB.out.cell (World.block_lt_of_cell? w _ hx134_2)).trans hx134_2
         replace p134 := eq_true p134
         replace q134 := eq_true q134
         have p135 : 0 ≤ (x3_1 : Int) := of_decide_eq_true (by first | (with_reducible assumption) | assumption)
         have q135 : x3_1 < (l0.length : Int) := of_decide_eq_true (by first | (with_reducible assumption) | assumption)
         obtain ⟨ad135, e135, hx135_0, hx135_1, hx135_2⟩ := at_T51 HR0.out x3_1 p135 q135
         obtain rfl : ad133 = ad135 := (by injection e135)
         replace hx135_0 := (HB.out.cell (World.block_lt_of_cell? w _ hx135_0)).trans hx135_0
         replace hx135_1 := (HB.out.cell (World.block_lt_of_cell? w _ hx135_1)).trans hx135_1
         replace hx135_2 := (HB.out.cell (World.block_lt_of_cell? w _ hx135_2)).trans hx135_2
         replace p135 := eq_true p135
         replace q135 := eq_true q135
         go_wp2
         go_ret
         exact ⟨by first | rfl | (simp [errW_none, errW_some] <;> rfl) | (simp [*, errW_none, errW_some] <;> rfl) | (simp [errW_none, errW_some]; generalize ByteArray.toList _ = l_; cases l_ <;> rfl), by repeat (first | (with_reducible first | exact HB.out | apply below_alloc | apply pw_below_drewN | apply below_drew1) | exact HB.out)⟩
        ·
         rw [if_neg c7] at H
         have c7b0 : decide (80 < (((rd_T51 l0 x3_1).f1).size : Int)) = false := decide_eq_false c7
         have c7b1 : decide (80 < ((rd_T51 l0 x3_1).f1).size) = false := decide_eq_false (by omega)
         clear c7
         replace H := Option.bind_eq_some_iff.mp H
         obtain ⟨t137, A80, H⟩ := H
         replace H : (if t137 = true then ((laws_tame.f k1 ((rd_T51 l0 x3_1).f1)).bind fun t139 => (if t139 = true then (laws_deeds.l0 k1 l0 (wrap64 (x3_1 + 1))) else (some false))) else (some false)) = some r := H
         have A8 := Aside0.mk A80
         clear A80
         by_cases c9 : t137 = true
         ·
          subst c9
          have H1 : ((laws_tame.f k1 ((rd_T51 l0 x3_1).f1)).bind fun t139 => (if t139 = true then (laws_deeds.l0 k1 l0 (wrap64 (x3_1 + 1))) else (some false))) = some r := by rw [if_pos rfl] at H; exact H
          clear H
          have H := H1
          clear H1
          replace H := Option.bind_eq_some_iff.mp H
          obtain ⟨t139, A100, H⟩ := H
          replace H : (if t139 = true then (laws_deeds.l0 k1 l0 (wrap64 (x3_1 + 1))) else (some false)) = some r := H
          have A10 := Aside0.mk A100
          clear A100
          by_cases c11 : t139 = true
          ·
           subst c11
           have H1 : (laws_deeds.l0 k1 l0 (wrap64 (x3_1 + 1))) = some r := by rw [if_pos rfl] at H; exact H
           clear H
           have H := H1
           clear H1
           have H' := Aside0.mk H
           clear H
           have p133 : 0 ≤ (x3_1 : Int) := of_decide_eq_true (by first | (with_reducible assumption) | assumption)
           have q133 : x3_1 < (l0.length : Int) := of_decide_eq_true (by first | (with_reducible assumption) | assumption)
           obtain ⟨ad133, e133, hx133_0, hx133_1, hx133_2⟩ := at_T51 HR0.out x3_1 p133 q133
           cases e133
           replace hx133_0 := (HB.out.cell (World.block_lt_of_cell? w _ hx133_0)).trans hx133_0
           replace hx133_1 := (HB.out.cell (World.block_lt_of_cell? w _ hx133_1)).trans hx133_1
           replace hx133_2 := (HB.out.cell (World.block_lt_of_cell? w _ hx133_2)).trans hx133_2
           replace p133 := eq_true p133
           replace q133 := eq_true q133
           have p134 : 0 ≤ (x3_1 : Int) := of_decide_eq_true (by first | (with_reducible assumption) | assumption)
           have q134 : x3_1 < (l0.length : Int) := of_decide_eq_true (by first | (with_reducible assumption) | assumption)
           obtain ⟨ad134, e134, hx134_0, hx134_1, hx134_2⟩ := at_T51 HR0.out x3_1 p134 q134
           obtain rfl : ad133 = ad134 := (by injection e134)
           replace hx134_0 := (HB.out.cell (World.block_lt_of_cell? w _ hx134_0)).trans hx134_0
           replace hx134_1 := (HB.out.cell (World.block_lt_of_cell? w _ hx134_1)).trans hx134_1
           replace hx134_2 := (HB.out.cell (World.block_lt_of_cell? w _ hx134_2)).trans hx134_2
           replace p134 := eq_true p134
           replace q134 := eq_true q134
           have p135 : 0 ≤ (x3_1 : Int) := of_decide_eq_true (by first | (with_reducible assumption) | assumption)
           have q135 : x3_1 < (l0.length : Int) := of_decide_eq_true (by first | (with_reducible assumption) | assumption)
           obtain ⟨ad135, e135, hx135_0, hx135_1, hx135_2⟩ := at_T51 HR0.out x3_1 p135 q135
           obtain rfl : ad133 = ad135 := (by injection e135)
           replace hx135_0 := (HB.out.cell (World.block_lt_of_cell? w _ hx135_0)).trans hx135_0
           replace hx135_1 := (HB.out.cell (World.block_lt_of_cell? w _ hx135_1)).trans hx135_1
           replace hx135_2 := (HB.out.cell (World.block_lt_of_cell? w _ hx135_2)).trans hx135_2
           replace p135 := eq_true p135
           replace q135 := eq_true q135
           have p136 : 0 ≤ (x3_1 : Int) := of_decide_eq_true (by first | (with_reducible assumption) | assumption)
           have q136 : x3_1 < (l0.length : Int) := of_decide_eq_true (by first | (with_reducible assumption) | assumption)
           obtain ⟨ad136, e136, hx136_0, hx136_1, hx136_2⟩ := at_T51 HR0.out x3_1 p136 q136
           obtain rfl : ad133 = ad136 := (by injection e136)
           replace hx136_0 := (HB.out.cell (World.block_lt_of_cell? w _ hx136_0)).trans hx136_0
           replace hx136_1 := (HB.out.cell (World.block_lt_of_cell? w _ hx136_1)).trans hx136_1
           replace hx136_2 := (HB.out.cell (World.block_lt_of_cell? w _ hx136_2)).trans hx136_2
           replace p136 := eq_true p136
           replace q136 := eq_true q136
           go_wp2_with (first | (go_at_call 42; (with_reducible refine (laws_clean.calls k1 ((rd_T51 l0 x3_1).f1) true _ A8.out).mono ?_); rintro e w' ⟨rfl, ⟨nd, rfl⟩⟩; have p138 : 0 ≤ (x3_1 : Int) := of_decide_eq_true (by first | (with_reducible assumption) | assumption); have q138 : x3_1 < (l0.length : Int) := of_decide_eq_true (by first | (with_reducible assumption) | assumption); obtain ⟨ad138, e138, hx138_0, hx138_1, hx138_2⟩ := at_T51 HR0.out x3_1 p138 q138; obtain rfl : ad133 = ad138 := (by injection e138); replace hx138_0 := (HB.out.cell (World.block_lt_of_cell? w _ hx138_0)).trans hx138_0; replace hx138_1 := (HB.out.cell (World.block_lt_of_cell? w _ hx138_1)).trans hx138_1; replace hx138_2 := (HB.out.cell (World.block_lt_of_cell? w _ hx138_2)).trans hx138_2; replace p138 := eq_true p138; replace q138 := eq_true q138) | (go_at_call 43; (with_reducible refine (laws_tame.calls k1 ((rd_T51 l0 x3_1).f1) true _ A10.out).mono ?_); rintro e w12 ⟨rfl, hb⟩; have n0_ := Aside0.mk (below_step (by repeat (first | (with_reducible first | exact HB.out | apply below_alloc | apply pw_below_drewN | apply below_drew1) | exact HB.out)) hb); clear HB; have HB := n0_; clear n0_; (try clear hb); (try clear hb2); (try clear hk); (try clear hi)))
           go_roundg k1
           case measure => have := HK1.out; omega
           case rel => exact ⟨(wrap64 (x3_1 + 1)), (by first | rfl | (simp; done) | (simp [*]; done)), H', ⟨by have := HK1.out; omega⟩, ⟨by repeat (first | (with_reducible first | exact HB.out | apply below_alloc | apply pw_below_drewN | apply below_drew1) | exact HB.out)⟩⟩
          ·
           replace c11 := Bool.eq_false_iff.mpr c11
           subst c11
           have H1 : (some false) = some r := by rw [if_neg (show ¬ (false = true) by decide)] at H; exact H
           clear H
           have H := H1
           clear H1
           obtain rfl := Option.some.inj H
           have p133 : 0 ≤ (x3_1 : Int) := of_decide_eq_true (by first | (with_reducible assumption) | assumption)
           have q133 : x3_1 < (l0.length : Int) := of_decide_eq_true (by first | (with_reducible assumption) | assumption)
           obtain ⟨ad133, e133, hx133_0, hx133_1, hx133_2⟩ := at_T51 HR0.out x3_1 p133 q133
           cases e133
           replace hx133_0 := (HB.out.cell (World.block_lt_of_cell? w _ hx133_0)).trans hx133_0
           replace hx133_1 := (HB.out.cell (World.block_lt_of_cell? w _ hx133_1)).trans hx133_1
           replace hx133_2 := (HB.out.cell (World.block_lt_of_cell? w _ hx133_2)).trans hx133_2
           replace p133 := eq_true p133
           replace q133 := eq_true q133
           have p134 : 0 ≤ (x3_1 : Int) := of_decide_eq_true (by first | (with_reducible assumption) | assumption)
           have q134 : x3_1 < (l0.length : Int) := of_decide_eq_true (by first | (with_reducible assumption) | assumption)
           obtain ⟨ad134, e134, hx134_0, hx134_1, hx134_2⟩ := at_T51 HR0.out x3_1 p134 q134
           obtain rfl : ad133 = ad134 := (by injection e134)
           replace hx134_0 := (HB.out.cell (World.block_lt_of_cell? w _ hx134_0)).trans hx134_0
           replace hx134_1 := (HB.out.cell (World.block_lt_of_cell? w _ hx134_1)).trans hx134_1
           replace hx134_2 := (HB.out.cell (World.block_lt_of_cell? w _ hx134_2)).trans hx134_2
           replace p134 := eq_true p134
           replace q134 := eq_true q134
           have p135 : 0 ≤ (x3_1 : Int) := of_decide_eq_true (by first | (with_reducible assumption) | assumption)
           have q135 : x3_1 < (l0.length : Int) := of_decide_eq_true (by first | (with_reducible assumption) | assumption)
           obtain ⟨ad135, e135, hx135_0, hx135_1, hx135_2⟩ := at_T51 HR0.out x3_1 p135 q135
           obtain rfl : ad133 = ad135 := (by injection e135)
           replace hx135_0 := (HB.out.cell (World.block_lt_of_cell? w _ hx135_0)).trans hx135_0
           replace hx135_1 := (HB.out.cell (World.block_lt_of_cell? w _ hx135_1)).trans hx135_1
           replace hx135_2 := (HB.out.cell (World.block_lt_of_cell? w _ hx135_2)).trans hx135_2
           replace p135 := eq_true p135
           replace q135 := eq_true q135
           have p136 : 0 ≤ (x3_1 : Int) := of_decide_eq_true (by first | (with_reducible assumption) | assumption)
           have q136 : x3_1 < (l0.length : Int) := of_decide_eq_true (by first | (with_reducible assumption) | assumption)
           obtain ⟨ad136, e136, hx136_0, hx136_1, hx136_2⟩ := at_T51 HR0.out x3_1 p136 q136
           obtain rfl : ad133 = ad136 := (by injection e136)
           replace hx136_0 := (HB.out.cell (World.block_lt_of_cell? w _ hx136_0)).trans hx136_0
           replace hx136_1 := (HB.out.cell (World.block_lt_of_cell? w _ hx136_1)).trans hx136_1
           replace hx136_2 := (HB.out.cell (World.block_lt_of_cell? w _ hx136_2)).trans hx136_2
           replace p136 := eq_true p136
           replace q136 := eq_true q136
           go_wp2_with (first | (go_at_call 42; (with_reducible refine (laws_clean.calls k1 ((rd_T51 l0 x3_1).f1) true _ A8.out).mono ?_); rintro e w' ⟨rfl, ⟨nd, rfl⟩⟩; have p138 : 0 ≤ (x3_1 : Int) := of_decide_eq_true (by first | (with_reducible assumption) | assumption); have q138 : x3_1 < (l0.length : Int) := of_decide_eq_true (by first | (with_reducible assumption) | assumption); obtain ⟨ad138, e138, hx138_0, hx138_1, hx138_2⟩ := at_T51 HR0.out x3_1 p138 q138; obtain rfl : ad133 = ad138 := (by injection e138); replace hx138_0 := (HB.out.cell (World.block_lt_of_cell? w _ hx138_0)).trans hx138_0; replace hx138_1 := (HB.out.cell (World.block_lt_of_cell? w _ hx138_1)).trans hx138_1; replace hx138_2 := (HB.out.cell (World.block_lt_of_cell? w _ hx138_2)).trans hx138_2; replace p138 := eq_true p138; replace q138 := eq_true q138) | (go_at_call 43; (with_reducible refine (laws_tame.calls k1 ((rd_T51 l0 x3_1).f1) false _ A10.out).mono ?_); rintro e w13 ⟨rfl, hb⟩; have n0_ := Aside0.mk (below_step (by repeat (first | (with_reducible first | exact HB.out | apply below_alloc | apply pw_below_drewN | apply below_drew1) | exact HB.out)) hb); clear HB; have HB := n0_; clear n0_; (try clear hb); (try clear hb2); (try clear hk); (try clear hi)))
           go_ret
           exact ⟨by first | rfl | (simp [errW_none, errW_some] <;> rfl) | (simp [*, errW_none, errW_some] <;> rfl) | (simp [errW_none, errW_some]; generalize ByteArray.toList _ = l_; cases l_ <;> rfl), by repeat (first | (with_reducible first | exact HB.out | apply below_alloc | apply pw_below_drewN | apply below_drew1) | exact HB.out)⟩
         ·
          replace c9 := Bool.eq_false_iff.mpr c9
          subst c9
          have H1 : (some false) = some r := by rw [if_neg (show ¬ (false = true) by decide)] at H; exact H
          clear H
          have H := H1
          clear H1
          obtain rfl := Option.some.inj H
          have p133 : 0 ≤ (x3_1 : Int) := of_decide_eq_true (by first | (with_reducible assumption) | assumption)
          have q133 : x3_1 < (l0.length : Int) := of_decide_eq_true (by first | (with_reducible assumption) | assumption)
          obtain ⟨ad133, e133, hx133_0, hx133_1, hx133_2⟩ := at_T51 HR0.out x3_1 p133 q133
          cases e133
          replace hx133_0 := (HB.out.cell (World.block_lt_of_cell? w _ hx133_0)).trans hx133_0
          replace hx133_1 := (HB.out.cell (World.block_lt_of_cell? w _ hx133_1)).trans hx133_1
          replace hx133_2 := (HB.out.cell (World.block_lt_of_cell? w _ hx133_2)).trans hx133_2
          replace p133 := eq_true p133
          replace q133 := eq_true q133
          have p134 : 0 ≤ (x3_1 : Int) := of_decide_eq_true (by first | (with_reducible assumption) | assumption)
          have q134 : x3_1 < (l0.length : Int) := of_decide_eq_true (by first | (with_reducible assumption) | assumption)
          obtain ⟨ad134, e134, hx134_0, hx134_1, hx134_2⟩ := at_T51 HR0.out x3_1 p134 q134
          obtain rfl : ad133 = ad134 := (by injection e134)
          replace hx134_0 := (HB.out.cell (World.block_lt_of_cell? w _ hx134_0)).trans hx134_0
          replace hx134_1 := (HB.out.cell (World.block_lt_of_cell? w _ hx134_1)).trans hx134_1
          replace hx134_2 := (HB.out.cell (World.block_lt_of_cell? w _ hx134_2)).trans hx134_2
          replace p134 := eq_true p134
          replace q134 := eq_true q134
          have p135 : 0 ≤ (x3_1 : Int) := of_decide_eq_true (by first | (with_reducible assumption) | assumption)
          have q135 : x3_1 < (l0.length : Int) := of_decide_eq_true (by first | (with_reducible assumption) | assumption)
          obtain ⟨ad135, e135, hx135_0, hx135_1, hx135_2⟩ := at_T51 HR0.out x3_1 p135 q135
          obtain rfl : ad133 = ad135 := (by injection e135)
          replace hx135_0 := (HB.out.cell (World.block_lt_of_cell? w _ hx135_0)).trans hx135_0
          replace hx135_1 := (HB.out.cell (World.block_lt_of_cell? w _ hx135_1)).trans hx135_1
          replace hx135_2 := (HB.out.cell (World.block_lt_of_cell? w _ hx135_2)).trans hx135_2
          replace p135 := eq_true p135
          replace q135 := eq_true q135
          have p136 : 0 ≤ (x3_1 : Int) := of_decide_eq_true (by first | (with_reducible assumption) | assumption)
          have q136 : x3_1 < (l0.length : Int) := of_decide_eq_true (by first | (with_reducible assumption) | assumption)
          obtain ⟨ad136, e136, hx136_0, hx136_1, hx136_2⟩ := at_T51 HR0.out x3_1 p136 q136
          obtain rfl : ad133 = ad136 := (by injection e136)
          replace hx136_0 := (HB.out.cell (World.block_lt_of_cell? w _ hx136_0)).trans hx136_0
          replace hx136_1 := (HB.out.cell (World.block_lt_of_cell? w _ hx136_1)).trans hx136_1
          replace hx136_2 := (HB.out.cell (World.block_lt_of_cell? w _ hx136_2)).trans hx136_2
          replace p136 := eq_true p136
          replace q136 := eq_true q136
          go_wp2_with (first | (go_at_call 42; (with_reducible refine (laws_clean.calls k1 ((rd_T51 l0 x3_1).f1) false _ A8.out).mono ?_); rintro e w' ⟨rfl, ⟨nd, rfl⟩⟩))
          go_ret
          exact ⟨by first | rfl | (simp [errW_none, errW_some] <;> rfl) | (simp [*, errW_none, errW_some] <;> rfl) | (simp [errW_none, errW_some]; generalize ByteArray.toList _ = l_; cases l_ <;> rfl), by repeat (first | (with_reducible first | exact HB.out | apply below_alloc | apply pw_below_drewN | apply below_drew1) | exact HB.out)⟩
     ·
      rw [if_neg c4] at H
      exact absurd H (by simp)
    ·
     rw [if_neg c3] at H
     have c3b0 : decide (x3_1 < (l0.length : Int)) = false := decide_eq_false c3
     clear c3
     obtain rfl := Option.some.inj H
     go_wp2
     go_ret
     exact ⟨by first | rfl | (simp [errW_none, errW_some] <;> rfl) | (simp [*, errW_none, errW_some] <;> rfl) | (simp [errW_none, errW_some]; generalize ByteArray.toList _ = l_; cases l_ <;> rfl), by repeat (first | (with_reducible first | exact HB.out | apply below_alloc | apply pw_below_drewN | apply below_drew1) | exact HB.out)⟩

/-! ### spec_place: function 44 -/
def spec_place.l0 : Nat → List (S31) → ByteArray → Int → Int → Option (Int)
 | 0, _, _, _, _ => none
 | k + 1, x0, x1, x2, x7 => if x7 < (x0.length : Int) then (if 0 ≤ x7 then (if ((rd_T31 x0 x7).f0).toList = x1.toList then (if ((rd_T31 x0 x7).f1) = x2 then (some x7) else (spec_place.l0 k x0 x1 x2 (wrap64 (x7 + 1)))) else (spec_place.l0 k x0 x1 x2 (wrap64 (x7 + 1)))) else (none)) else (some (-1))
def spec_place.f (k : Nat) (l0 : List (S31)) (a1 : ByteArray) (a2 : Int) : Option (Int) := spec_place.l0 k l0 a1 a2 0
theorem spec_place.mono_l : ∀ k, (∀ y0 y1 y2 y3, LeO (spec_place.l0 k y0 y1 y2 y3) (spec_place.l0 (k + 1) y0 y1 y2 y3))
 | 0 => fun _ _ _ _ r h => by simp [spec_place.l0] at h
 | k + 1 => by
  have ih0 := spec_place.mono_l k
  ·
   intro y0 y1 y2 y3
   unfold spec_place.l0
   repeat' first
   | (with_reducible exact ih0 _ _ _ _)
   | (with_reducible exact LeO.refl _)
   | (with_reducible exact LeO.none _)
   | (with_reducible refine LeO.ite ?_ ?_)
   | (with_reducible refine LeO.bind ?_ (fun _ => ?_))
   | exact ih0 _ _ _ _
   | exact LeO.none _
   | refine LeO.ite ?_ ?_
   | refine LeO.bind ?_ (fun _ => ?_)
theorem spec_place.mono : ∀ a0 a1 a2 k, LeO (spec_place.f k a0 a1 a2) (spec_place.f (k + 1) a0 a1 a2) := by
 intro a0 a1 a2 k
 have ih0 := spec_place.mono_l k
 unfold spec_place.f
 repeat' first
   | (with_reducible exact ih0 _ _ _ _)
   | (with_reducible exact LeO.refl _)
   | (with_reducible exact LeO.none _)
   | (with_reducible refine LeO.ite ?_ ?_)
   | (with_reducible refine LeO.bind ?_ (fun _ => ?_))
   | exact ih0 _ _ _ _
   | exact LeO.none _
   | refine LeO.ite ?_ ?_
   | refine LeO.bind ?_ (fun _ => ?_)
set_option maxHeartbeats 8000000 in
set_option maxRecDepth 100000 in
theorem spec_place.calls (k : Nat) (A0 : Option Addr) (c0 : Nat) (l0 : List (S31)) (a1 : ByteArray) (a2 : Int) (r : Int) (w : World) (hr0 : Kd.C k31 w A0 l0.length l0) (hc0 : l0.length ≤ c0) (h : spec_place.f k l0 a1 a2 = some r) :
  Calls Tryd.prog 44 #[.slice A0 l0.length c0, .string a1, .int .i64 a2] w fun e w' => e = .returned (.int .i64 r) ∧ Drawn0 w w' := by
 have HR0 := Aside0.mk hr0
 have HC0 := Aside0.mk hc0
 clear hr0 hc0
 have H : (spec_place.l0 k l0 a1 a2 0) = some r := h
 clear h
 have H' := Aside0.mk H
 clear H
 go_enter Tryd.func44, Tryd.ntmps44
 go_wp2
 go_loopg [7] k (fun kq v7 w' => ∃ (x7_1 : Int), v7 = .int .i64 x7_1 ∧ Aside0 (spec_place.l0 kq l0 a1 a2 x7_1 = some r) ∧ Aside0 (kq ≤ k) ∧ Drawn0 w w')
 case atStart => exact ⟨(0), (by first | rfl | (simp; done) | (simp [*]; done)), H', ⟨Nat.le_refl _⟩, by repeat (first | exact Drawn0.refl _ | apply Drawn0.step)⟩
 case round =>
  clear H'
  try clear p2
  obtain ⟨x7_1, rfl, HA, HK1, ⟨m1, rfl⟩⟩ := hrel
  cases gk with
  | zero => exact absurd HA.out (by simp [spec_place.l0])
  | succ k1 =>
   have H := HA.out
   clear HA
   simp only [spec_place.l0] at H
   by_cases c4 : x7_1 < (l0.length : Int)
   ·
    rw [if_pos c4] at H
    have c4b0 : decide (x7_1 < (l0.length : Int)) = true := decide_eq_true c4
    clear c4
    by_cases c5 : 0 ≤ x7_1
    ·
     rw [if_pos c5] at H
     have c5b0 : decide (0 ≤ x7_1) = true := decide_eq_true c5
     clear c5
     by_cases c6 : ((rd_T31 l0 x7_1).f0).toList = a1.toList
     ·
      rw [if_pos c6] at H
      have c6b0 : (((rd_T31 l0 x7_1).f0).toList == a1.toList) = true := beq_iff_eq.mpr c6
      have c6b1 : (((rd_T31 l0 x7_1).f0).toList != a1.toList) = false := bne_eq_false_iff_eq.mpr c6
      clear c6
      by_cases c7 : ((rd_T31 l0 x7_1).f1) = a2
      ·
       rw [if_pos c7] at H
       have c7b0 : (((rd_T31 l0 x7_1).f1) == a2) = true := beq_iff_eq.mpr c7
       have c7b1 : (((rd_T31 l0 x7_1).f1) != a2) = false := bne_eq_false_iff_eq.mpr c7
       clear c7
       obtain rfl := Option.some.inj H
       have p140 : 0 ≤ (x7_1 : Int) := of_decide_eq_true (by first | (with_reducible assumption) | assumption)
       have q140 : x7_1 < (l0.length : Int) := of_decide_eq_true (by first | (with_reducible assumption) | assumption)
       obtain ⟨ad140, e140, hx140_0, hx140_1⟩ := at_T31 HR0.out x7_1 p140 q140
       cases e140
       replace p140 := eq_true p140
       replace q140 := eq_true q140
       have p141 : 0 ≤ (x7_1 : Int) := of_decide_eq_true (by first | (with_reducible assumption) | assumption)
       have q141 : x7_1 < (l0.length : Int) := of_decide_eq_true (by first | (with_reducible assumption) | assumption)
       obtain ⟨ad141, e141, hx141_0, hx141_1⟩ := at_T31 HR0.out x7_1 p141 q141
       obtain rfl : ad140 = ad141 := (by injection e141)
       replace p141 := eq_true p141
       replace q141 := eq_true q141
       go_wp2
       go_ret
       exact ⟨by first | rfl | (simp; done) | (simp [*]; done) | (simp; generalize ByteArray.toList _ = l_; cases l_ <;> rfl), by repeat (first | exact Drawn0.refl _ | apply Drawn0.step)⟩
      ·
       rw [if_neg c7] at H
       have c7b0 : (((rd_T31 l0 x7_1).f1) == a2) = false := beq_eq_false_iff_ne.mpr c7
       have c7b1 : (((rd_T31 l0 x7_1).f1) != a2) = true := bne_iff_ne.mpr c7
       have H' := Aside0.mk H
       clear H
       have p140 : 0 ≤ (x7_1 : Int) := of_decide_eq_true (by first | (with_reducible assumption) | assumption)
       have q140 : x7_1 < (l0.length : Int) := of_decide_eq_true (by first | (with_reducible assumption) | assumption)
       obtain ⟨ad140, e140, hx140_0, hx140_1⟩ := at_T31 HR0.out x7_1 p140 q140
       cases e140
       replace p140 := eq_true p140
       replace q140 := eq_true q140
       have p141 : 0 ≤ (x7_1 : Int) := of_decide_eq_true (by first | (with_reducible assumption) | assumption)
       have q141 : x7_1 < (l0.length : Int) := of_decide_eq_true (by first | (with_reducible assumption) | assumption)
       obtain ⟨ad141, e141, hx141_0, hx141_1⟩ := at_T31 HR0.out x7_1 p141 q141
       obtain rfl : ad140 = ad141 := (by injection e141)
       replace p141 := eq_true p141
       replace q141 := eq_true q141
       go_wp2
       go_roundg k1
       case measure => have := HK1.out; omega
       case rel => exact ⟨(wrap64 (x7_1 + 1)), (by first | rfl | (simp; done) | (simp [*]; done)), H', ⟨by have := HK1.out; omega⟩, by repeat (first | exact Drawn0.refl _ | apply Drawn0.step)⟩
     ·
      rw [if_neg c6] at H
      have c6b0 : (((rd_T31 l0 x7_1).f0).toList == a1.toList) = false := beq_eq_false_iff_ne.mpr c6
      have c6b1 : (((rd_T31 l0 x7_1).f0).toList != a1.toList) = true := bne_iff_ne.mpr c6
      have H' := Aside0.mk H
      clear H
      have p140 : 0 ≤ (x7_1 : Int) := of_decide_eq_true (by first | (with_reducible assumption) | assumption)
      have q140 : x7_1 < (l0.length : Int) := of_decide_eq_true (by first | (with_reducible assumption) | assumption)
      obtain ⟨ad140, e140, hx140_0, hx140_1⟩ := at_T31 HR0.out x7_1 p140 q140
      cases e140
      replace p140 := eq_true p140
      replace q140 := eq_true q140
      go_wp2
      go_roundg k1
      case measure => have := HK1.out; omega
      case rel => exact ⟨(wrap64 (x7_1 + 1)), (by first | rfl | (simp; done) | (simp [*]; done)), H', ⟨by have := HK1.out; omega⟩, by repeat (first | exact Drawn0.refl _ | apply Drawn0.step)⟩
    ·
     rw [if_neg c5] at H
     exact absurd H (by simp)
   ·
    rw [if_neg c4] at H
    have c4b0 : decide (x7_1 < (l0.length : Int)) = false := decide_eq_false c4
    clear c4
    obtain rfl := Option.some.inj H
    go_wp2
    go_ret
    exact ⟨by first | rfl | (simp; done) | (simp [*]; done) | (simp; generalize ByteArray.toList _ = l_; cases l_ <;> rfl), by repeat (first | exact Drawn0.refl _ | apply Drawn0.step)⟩

end Go.Proofs.YtcnbnljlopopkaaDoor.PFnListMatch

-- thin
