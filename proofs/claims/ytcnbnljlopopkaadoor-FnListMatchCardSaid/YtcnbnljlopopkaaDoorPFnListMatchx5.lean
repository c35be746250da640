-- Written by hprint.py (this session's program, over the kit's printing program, with this session's own contracts in it). Not trusted: Lean checks it.
import Derived.Test.YtcnbnljlopopkaaDoorPFnListMatchx0
import Derived.Test.YtcnbnljlopopkaaDoorPFnListMatchx1
import Derived.Test.YtcnbnljlopopkaaDoorPFnListMatchx2
import Derived.Test.YtcnbnljlopopkaaDoorPFnListMatchx3
import Derived.Test.YtcnbnljlopopkaaDoorPFnListMatchx4
namespace Go.Proofs.YtcnbnljlopopkaaDoor.PFnListMatch
open Go.RowKit Go.Proofs.YtcnbnljlopopkaaDoorW.PrintWords Go.Proofs.YtcnbnljlopopkaaDoorW.PrintLast Go.Proofs.YtcnbnljlopopkaaDoorW.PrintMore
attribute [local go_sem] max2_int min2_int max_two min_two max_three min_three max_four min_four   -- for this text's walks alone
set_option linter.unusedVariables false
set_option linter.unusedSimpArgs false

/-! ### spec_Twice: function 27 -/
def spec_Twice.l0 : Nat → List (S51) → Int → Option (Bool)
 | 0, _, _ => none
 | k + 1, x0, x3 => if x3 < (x0.length : Int) then (if 0 ≤ x3 then (if x3 ≤ (x0.length : Int) then ((spec_List.f k (x0.take (x3 : Int).toNat)).bind fun bt148 => (if ((rd_T51 x0 x3).f0) = 0 then ((spec_place.f k bt148.1 ((rd_T51 x0 x3).f1) ((rd_T51 x0 x3).f2)).bind fun t157 => (if t157 ≥ 0 then (some true) else (spec_Twice.l0 k x0 (wrap64 (x3 + 1))))) else (spec_Twice.l0 k x0 (wrap64 (x3 + 1))))) else (none)) else (none)) else (some false)
def spec_Twice.f (k : Nat) (l0 : List (S51)) : Option (Bool) := spec_Twice.l0 k l0 0
theorem spec_Twice.mono_l : ∀ k, (∀ y0 y1, LeO (spec_Twice.l0 k y0 y1) (spec_Twice.l0 (k + 1) y0 y1))
 | 0 => fun _ _ r h => by simp [spec_Twice.l0] at h
 | k + 1 => by
  have ih0 := spec_Twice.mono_l k
  ·
   intro y0 y1
   unfold spec_Twice.l0
   repeat' first
   | (with_reducible exact ih0 _ _)
   | (with_reducible exact spec_List.mono _ _)
   | (with_reducible exact spec_place.mono _ _ _ _)
   | (with_reducible exact LeO.refl _)
   | (with_reducible exact LeO.none _)
   | (with_reducible refine LeO.ite ?_ ?_)
   | (with_reducible refine LeO.bind ?_ (fun _ => ?_))
   | exact ih0 _ _
   | exact spec_List.mono _ _
   | exact spec_place.mono _ _ _ _
   | exact LeO.none _
   | refine LeO.ite ?_ ?_
   | refine LeO.bind ?_ (fun _ => ?_)
theorem spec_Twice.mono : ∀ a0 k, LeO (spec_Twice.f k a0) (spec_Twice.f (k + 1) a0) := by
 intro a0 k
 have ih0 := spec_Twice.mono_l k
 unfold spec_Twice.f
 repeat' first
   | (with_reducible exact ih0 _ _)
   | (with_reducible exact spec_List.mono _ _)
   | (with_reducible exact spec_place.mono _ _ _ _)
   | (with_reducible exact LeO.refl _)
   | (with_reducible exact LeO.none _)
   | (with_reducible refine LeO.ite ?_ ?_)
   | (with_reducible refine LeO.bind ?_ (fun _ => ?_))
   | exact ih0 _ _
   | exact spec_List.mono _ _
   | exact spec_place.mono _ _ _ _
   | exact LeO.none _
   | refine LeO.ite ?_ ?_
   | refine LeO.bind ?_ (fun _ => ?_)
set_option maxHeartbeats 8000000 in
set_option maxRecDepth 100000 in
theorem spec_Twice.calls (k : Nat) (A0 : Option Addr) (c0 : Nat) (l0 : List (S51)) (r : Bool) (w : World) (hr0 : Kd.C k51 w A0 l0.length l0) (hc0 : l0.length ≤ c0) (h : spec_Twice.f k l0 = some r) :
  Calls Tryd.prog 27 #[.slice A0 l0.length c0] w fun e w' => e = .returned (.bool r) ∧ Below w.heap.size w w' := by
 have HR0 := Aside0.mk hr0
 have HC0 := Aside0.mk hc0
 clear hr0 hc0
 have HB := Aside0.mk (Below.refl w.heap.size w)
 have H : (spec_Twice.l0 k l0 0) = some r := h
 clear h
 have H' := Aside0.mk H
 clear H
 go_enter Tryd.func27, Tryd.ntmps27
 go_wp2
 repeat (go_quiet (fail); try go_wp2)
 go_loopg [3] k (fun kq v3 w' => ∃ (x3_1 : Int), v3 = .int .i64 x3_1 ∧ Aside0 (spec_Twice.l0 kq l0 x3_1 = some r) ∧ Aside0 (kq ≤ k) ∧ Aside0 (Below w.heap.size w w'))
 case atStart => exact ⟨(0), (by first | rfl | (simp; done) | (simp [*]; done)), H', ⟨Nat.le_refl _⟩, ⟨by repeat (first | (with_reducible first | exact HB.out | apply below_alloc | apply pw_below_drewN | apply below_drew1) | exact HB.out)⟩⟩
 case round =>
  clear H'
  obtain ⟨x3_1, rfl, HA, HK1, HB⟩ := hrel
  cases gk with
  | zero => exact absurd HA.out (by simp [spec_Twice.l0])
  | succ k1 =>
   have H := HA.out
   clear HA
   simp only [spec_Twice.l0] at H
   by_cases c2 : x3_1 < (l0.length : Int)
   ·
    rw [if_pos c2] at H
    have c2b0 : decide (x3_1 < (l0.length : Int)) = true := decide_eq_true c2
    clear c2
    by_cases c3 : 0 ≤ x3_1
    ·
     rw [if_pos c3] at H
     have c3b0 := eq_true c3
     have c3b1 : decide (0 ≤ x3_1) = true := decide_eq_true c3
     clear c3
     by_cases c4 : x3_1 ≤ (l0.length : Int)
     ·
      rw [if_pos c4] at H
      have c4b0 := eq_true c4
      have c4b1 : decide (x3_1 ≤ (l0.length : Int)) = true := decide_eq_true c4
      clear c4
      obtain ⟨y144, hy144⟩ : ∃ y_ : List (S51), y_ = (l0.take (x3_1 : Int).toNat) := ⟨_, rfl⟩
      replace H : ((spec_List.f k1 y144).bind fun bt148 => (if ((rd_T51 l0 x3_1).f0) = 0 then ((spec_place.f k1 bt148.1 ((rd_T51 l0 x3_1).f1) ((rd_T51 l0 x3_1).f2)).bind fun t157 => (if t157 ≥ 0 then (some true) else (spec_Twice.l0 k1 l0 (wrap64 (x3_1 + 1))))) else (spec_Twice.l0 k1 l0 (wrap64 (x3_1 + 1))))) = some r := by first | (rw [hy144]; with_reducible exact H) | (have H2_ := (Option.bind_some _ _).symm.trans H; rw [hy144]; with_reducible exact H2_) | (have H2_ := (Option.bind_some _ _).symm.trans H; with_reducible exact H2_) | with_reducible exact H | (rw [hy144]; exact H) | exact H
      have Ny144 := Aside0.mk hy144
      clear hy144
      replace H := Option.bind_eq_some_iff.mp H
      obtain ⟨⟨t148, t149⟩, A50, H⟩ := H
      replace H : (if ((rd_T51 l0 x3_1).f0) = 0 then ((spec_place.f k1 t148 ((rd_T51 l0 x3_1).f1) ((rd_T51 l0 x3_1).f2)).bind fun t157 => (if t157 ≥ 0 then (some true) else (spec_Twice.l0 k1 l0 (wrap64 (x3_1 + 1))))) else (spec_Twice.l0 k1 l0 (wrap64 (x3_1 + 1)))) = some r := H
      have A5 := Aside0.mk A50
      clear A50
      by_cases c6 : ((rd_T51 l0 x3_1).f0) = 0
      ·
       rw [if_pos c6] at H
       have c6b0 : (((rd_T51 l0 x3_1).f0) == 0) = true := beq_iff_eq.mpr c6
       have c6b1 : (((rd_T51 l0 x3_1).f0) != 0) = false := bne_eq_false_iff_eq.mpr c6
       clear c6
       replace H := Option.bind_eq_some_iff.mp H
       obtain ⟨t157, A70, H⟩ := H
       replace H : (if t157 ≥ 0 then (some true) else (spec_Twice.l0 k1 l0 (wrap64 (x3_1 + 1)))) = some r := H
       have A7 := Aside0.mk A70
       clear A70
       by_cases c8 : t157 ≥ 0
       ·
        rw [if_pos c8] at H
        have c8b0 : decide (0 ≤ t157) = true := decide_eq_true c8
        clear c8
        obtain rfl := Option.some.inj H
        have q9 : (x3_1 : Int) ≤ ((l0.length : Int) : Int) := of_decide_eq_true (by first | (with_reducible assumption) | assumption)
        obtain ⟨i09, hi09, _, hsz9, _⟩ := info_parts info51
        have hroom9 : l0.length ≤ c0 := HC0.out
        have hC9 : Kd.C k51 _ A0 l0.length l0 := HR0.out
        have hcut9 := cut_to (P := Tryd.prog) 22 51 .i64 Tryd.underlying22 hi09 A0 l0.length c0 x3_1 (of_decide_eq_true (by first | (with_reducible assumption) | assumption)) q9 hroom9
        have hr9 := Kd.C_take (m := (x3_1 : Int).toNat) hC9 (by omega)
        have hy9 : y144.length = (x3_1 : Int).toNat := (by rw [Ny144.out, List.length_take]; omega)
        rw [← Ny144.out] at hr9
        rw [← hy9] at hcut9
        have HR147 := Aside0.mk hr9
        have HC147 := Aside0.mk (show y144.length ≤ c0 from by omega)
        clear hr9 hC9 hroom9 hi09 hsz9
        have KY9 := Aside0.mk hy9
        clear hy9
        replace q9 := eq_true q9
        go_wp2_with (first | (go_at_call 29; (with_reducible refine (spec_List.calls k1 _ _ y144 t148 t149 _ ?side1 ?side2 A5.out).mono ?_); (case side1 => repeat (first | exact (Kd.C_below HR147.out HB.out) | (with_reducible refine Kd.C_alloc ?_ _) | (with_reducible refine Kd.C_drewN ?_ _) | (with_reducible refine Kd.C_drew ?_))); (case side2 => exact HC147.out); rintro e w10 ⟨v150, v152, rfl, ho0, ho1, hb⟩; have n0_ := Aside0.mk (Kd.R_lower ho0 (below_size (by repeat (first | (with_reducible first | exact HB.out | apply below_alloc | apply pw_below_drewN | apply below_drew1) | exact HB.out)))); have n1_ := Aside0.mk (Kd.R_lower ho1 (below_size (by repeat (first | (with_reducible first | exact HB.out | apply below_alloc | apply pw_below_drewN | apply below_drew1) | exact HB.out)))); have n2_ := Aside0.mk (below_step (by repeat (first | (with_reducible first | exact HB.out | apply below_alloc | apply pw_below_drewN | apply below_drew1) | exact HB.out)) hb); clear HB; have HO151 := n0_; have HO153 := n1_; have HB := n2_; clear n0_ n1_ n2_; (try clear hb); (try clear hb2); (try clear hk); (try clear hi); (try clear ho0); (try clear ho1); have p154 : 0 ≤ (x3_1 : Int) := of_decide_eq_true (by first | (with_reducible assumption) | assumption); have q154 : x3_1 < (l0.length : Int) := of_decide_eq_true (by first | (with_reducible assumption) | assumption); obtain ⟨ad154, e154, hx154_0, hx154_1, hx154_2⟩ := at_T51 HR0.out x3_1 p154 q154; cases e154; replace hx154_0 := (HB.out.cell (World.block_lt_of_cell? w _ hx154_0)).trans hx154_0; replace hx154_1 := (HB.out.cell (World.block_lt_of_cell? w _ hx154_1)).trans hx154_1; replace hx154_2 := (HB.out.cell (World.block_lt_of_cell? w _ hx154_2)).trans hx154_2; replace p154 := eq_true p154; replace q154 := eq_true q154; have p155 : 0 ≤ (x3_1 : Int) := of_decide_eq_true (by first | (with_reducible assumption) | assumption); have q155 : x3_1 < (l0.length : Int) := of_decide_eq_true (by first | (with_reducible assumption) | assumption); obtain ⟨ad155, e155, hx155_0, hx155_1, hx155_2⟩ := at_T51 HR0.out x3_1 p155 q155; obtain rfl : ad154 = ad155 := (by injection e155); replace hx155_0 := (HB.out.cell (World.block_lt_of_cell? w _ hx155_0)).trans hx155_0; replace hx155_1 := (HB.out.cell (World.block_lt_of_cell? w _ hx155_1)).trans hx155_1; replace hx155_2 := (HB.out.cell (World.block_lt_of_cell? w _ hx155_2)).trans hx155_2; replace p155 := eq_true p155; replace q155 := eq_true q155; have p156 : 0 ≤ (x3_1 : Int) := of_decide_eq_true (by first | (with_reducible assumption) | assumption); have q156 : x3_1 < (l0.length : Int) := of_decide_eq_true (by first | (with_reducible assumption) | assumption); obtain ⟨ad156, e156, hx156_0, hx156_1, hx156_2⟩ := at_T51 HR0.out x3_1 p156 q156; obtain rfl : ad154 = ad156 := (by injection e156); replace hx156_0 := (HB.out.cell (World.block_lt_of_cell? w _ hx156_0)).trans hx156_0; replace hx156_1 := (HB.out.cell (World.block_lt_of_cell? w _ hx156_1)).trans hx156_1; replace hx156_2 := (HB.out.cell (World.block_lt_of_cell? w _ hx156_2)).trans hx156_2; replace p156 := eq_true p156; replace q156 := eq_true q156; obtain ⟨Ao11, co11, eo11⟩ := Kd.R_slice HO151.out; subst eo11) | (go_at_call 44; (with_reducible refine (spec_place.calls k1 _ _ t148 ((rd_T51 l0 x3_1).f1) ((rd_T51 l0 x3_1).f2) t157 _ ?side1 ?side2 A7.out).mono ?_); (case side1 => repeat (first | exact (Kd.R_reads' HO151.out).2.2 | (with_reducible refine Kd.C_alloc ?_ _) | (with_reducible refine Kd.C_drewN ?_ _) | (with_reducible refine Kd.C_drew ?_))); (case side2 => exact (Kd.R_reads' HO151.out).2.1); rintro e w' ⟨rfl, ⟨nd, rfl⟩⟩; (try first | exact ⟨rfl, _, World.drewN_drewN _ _ _⟩ | exact ⟨rfl, _, Eq.trans (World.drewN_drewN _ _ _) (congrArg (World.drewN _) (Nat.add_assoc _ _ _))⟩)))
        repeat (go_quiet (first | (go_at_call 29; (with_reducible refine (spec_List.calls k1 _ _ y144 t148 t149 _ ?side1 ?side2 A5.out).mono ?_); (case side1 => repeat (first | exact (Kd.C_below HR147.out HB.out) | (with_reducible refine Kd.C_alloc ?_ _) | (with_reducible refine Kd.C_drewN ?_ _) | (with_reducible refine Kd.C_drew ?_))); (case side2 => exact HC147.out); rintro e w10 ⟨v150, v152, rfl, ho0, ho1, hb⟩; have n0_ := Aside0.mk (Kd.R_lower ho0 (below_size (by repeat (first | (with_reducible first | exact HB.out | apply below_alloc | apply pw_below_drewN | apply below_drew1) | exact HB.out)))); have n1_ := Aside0.mk (Kd.R_lower ho1 (below_size (by repeat (first | (with_reducible first | exact HB.out | apply below_alloc | apply pw_below_drewN | apply below_drew1) | exact HB.out)))); have n2_ := Aside0.mk (below_step (by repeat (first | (with_reducible first | exact HB.out | apply below_alloc | apply pw_below_drewN | apply below_drew1) | exact HB.out)) hb); clear HB; have HO151 := n0_; have HO153 := n1_; have HB := n2_; clear n0_ n1_ n2_; (try clear hb); (try clear hb2); (try clear hk); (try clear hi); (try clear ho0); (try clear ho1); have p154 : 0 ≤ (x3_1 : Int) := of_decide_eq_true (by first | (with_reducible assumption) | assumption); have q154 : x3_1 < (l0.length : Int) := of_decide_eq_true (by first | (with_reducible assumption) | assumption); obtain ⟨ad154, e154, hx154_0, hx154_1, hx154_2⟩ := at_T51 HR0.out x3_1 p154 q154; cases e154; replace hx154_0 := (HB.out.cell (World.block_lt_of_cell? w _ hx154_0)).trans hx154_0; replace hx154_1 := (HB.out.cell (World.block_lt_of_cell? w _ hx154_1)).trans hx154_1; replace hx154_2 := (HB.out.cell (World.block_lt_of_cell? w _ hx154_2)).trans hx154_2; replace p154 := eq_true p154; replace q154 := eq_true q154; have p155 : 0 ≤ (x3_1 : Int) := of_decide_eq_true (by first | (with_reducible assumption) | assumption); have q155 : x3_1 < (l0.length : Int) := of_decide_eq_true (by first | (with_reducible assumption) | assumption); obtain ⟨ad155, e155, hx155_0, hx155_1, hx155_2⟩ := at_T51 HR0.out x3_1 p155 q155; obtain rfl : ad154 = ad155 := (by injection e155); replace hx155_0 := (HB.out.cell (World.block_lt_of_cell? w _ hx155_0)).trans hx155_0; replace hx155_1 := (HB.out.cell (World.block_lt_of_cell? w _ hx155_1)).trans hx155_1; replace hx155_2 := (HB.out.cell (World.block_lt_of_cell? w _ hx155_2)).trans hx155_2; replace p155 := eq_true p155; replace q155 := eq_true q155; have p156 : 0 ≤ (x3_1 : Int) := of_decide_eq_true (by first | (with_reducible assumption) | assumption); have q156 : x3_1 < (l0.length : Int) := of_decide_eq_true (by first | (with_reducible assumption) | assumption); obtain ⟨ad156, e156, hx156_0, hx156_1, hx156_2⟩ := at_T51 HR0.out x3_1 p156 q156; obtain rfl : ad154 = ad156 := (by injection e156); replace hx156_0 := (HB.out.cell (World.block_lt_of_cell? w _ hx156_0)).trans hx156_0; replace hx156_1 := (HB.out.cell (World.block_lt_of_cell? w _ hx156_1)).trans hx156_1; replace hx156_2 := (HB.out.cell (World.block_lt_of_cell? w _ hx156_2)).trans hx156_2; replace p156 := eq_true p156; replace q156 := eq_true q156; obtain ⟨Ao11, co11, eo11⟩ := Kd.R_slice HO151.out; subst eo11) | (go_at_call 44; (with_reducible refine (spec_place.calls k1 _ _ t148 ((rd_T51 l0 x3_1).f1) ((rd_T51 l0 x3_1).f2) t157 _ ?side1 ?side2 A7.out).mono ?_); (case side1 => repeat (first | exact (Kd.R_reads' HO151.out).2.2 | (with_reducible refine Kd.C_alloc ?_ _) | (with_reducible refine Kd.C_drewN ?_ _) | (with_reducible refine Kd.C_drew ?_))); (case side2 => exact (Kd.R_reads' HO151.out).2.1); rintro e w' ⟨rfl, ⟨nd, rfl⟩⟩; (try first | exact ⟨rfl, _, World.drewN_drewN _ _ _⟩ | exact ⟨rfl, _, Eq.trans (World.drewN_drewN _ _ _) (congrArg (World.drewN _) (Nat.add_assoc _ _ _))⟩))); try go_wp2_with (first | (go_at_call 29; (with_reducible refine (spec_List.calls k1 _ _ y144 t148 t149 _ ?side1 ?side2 A5.out).mono ?_); (case side1 => repeat (first | exact (Kd.C_below HR147.out HB.out) | (with_reducible refine Kd.C_alloc ?_ _) | (with_reducible refine Kd.C_drewN ?_ _) | (with_reducible refine Kd.C_drew ?_))); (case side2 => exact HC147.out); rintro e w10 ⟨v150, v152, rfl, ho0, ho1, hb⟩; have n0_ := Aside0.mk (Kd.R_lower ho0 (below_size (by repeat (first | (with_reducible first | exact HB.out | apply below_alloc | apply pw_below_drewN | apply below_drew1) | exact HB.out)))); have n1_ := Aside0.mk (Kd.R_lower ho1 (below_size (by repeat (first | (with_reducible first | exact HB.out | apply below_alloc | apply pw_below_drewN | apply below_drew1) | exact HB.out)))); have n2_ := Aside0.mk (below_step (by repeat (first | (with_reducible first | exact HB.out | apply below_alloc | apply pw_below_drewN | apply below_drew1) | exact HB.out)) hb); clear HB; have HO151 := n0_; have HO153 := n1_; have HB := n2_; clear n0_ n1_ n2_; (try clear hb); (try clear hb2); (try clear hk); (try clear hi); (try clear ho0); (try clear ho1); have p154 : 0 ≤ (x3_1 : Int) := of_decide_eq_true (by first | (with_reducible assumption) | assumption); have q154 : x3_1 < (l0.length : Int) := of_decide_eq_true (by first | (with_reducible assumption) | assumption); obtain ⟨ad154, e154, hx154_0, hx154_1, hx154_2⟩ := at_T51 HR0.out x3_1 p154 q154; cases e154; replace hx154_0 := (HB.out.cell (World.block_lt_of_cell? w _ hx154_0)).trans hx154_0; replace hx154_1 := (HB.out.cell (World.block_lt_of_cell? w _ hx154_1)).trans hx154_1; replace hx154_2 := (HB.out.cell (World.block_lt_of_cell? w _ hx154_2)).trans hx154_2; replace p154 := eq_true p154; replace q154 := eq_true q154; have p155 : 0 ≤ (x3_1 : Int) := of_decide_eq_true (by first | (with_reducible assumption) | assumption); have q155 : x3_1 < (l0.length : Int) := of_decide_eq_true (by first | (with_reducible assumption) | assumption); obtain ⟨ad155, e155, hx155_0, hx155_1, hx155_2⟩ := at_T51 HR0.out x3_1 p155 q155; obtain rfl : ad154 = ad155 := (by injection e155); replace hx155_0 := (HB.out.cell (World.block_lt_of_cell? w _ hx155_0)).trans hx155_0; replace hx155_1 := (HB.out.cell (World.block_lt_of_cell? w _ hx155_1)).trans hx155_1; replace hx155_2 := (HB.out.cell (World.block_lt_of_cell? w _ hx155_2)).trans hx155_2; replace p155 := eq_true p155; replace q155 := eq_true q155; have p156 : 0 ≤ (x3_1 : Int) := of_decide_eq_true (by first | (with_reducible assumption) | assumption); have q156 : x3_1 < (l0.length : Int) := of_decide_eq_true (by first | (with_reducible assumption) | assumption); obtain ⟨ad156, e156, hx156_0, hx156_1, hx156_2⟩ := at_T51 HR0.out x3_1 p156 q156; obtain rfl : ad154 = ad156 := (by injection e156); replace hx156_0 := (HB.out.cell (World.block_lt_of_cell? w _ hx156_0)).trans hx156_0; replace hx156_1 := (HB.out.cell (World.block_lt_of_cell? w _ hx156_1)).trans hx156_1; replace hx156_2 := (HB.out.cell (World.block_lt_of_cell? w _ hx156_2)).trans hx156_2; replace p156 := eq_true p156; replace q156 := eq_true q156; obtain ⟨Ao11, co11, eo11⟩ := Kd.R_slice HO151.out; subst eo11) | (go_at_call 44; (with_reducible refine (spec_place.calls k1 _ _ t148 ((rd_T51 l0 x3_1).f1) ((rd_T51 l0 x3_1).f2) t157 _ ?side1 ?side2 A7.out).mono ?_); (case side1 => repeat (first | exact (Kd.R_reads' HO151.out).2.2 | (with_reducible refine Kd.C_alloc ?_ _) | (with_reducible refine Kd.C_drewN ?_ _) | (with_reducible refine Kd.C_drew ?_))); (case side2 => exact (Kd.R_reads' HO151.out).2.1); rintro e w' ⟨rfl, ⟨nd, rfl⟩⟩; (try first | exact ⟨rfl, _, World.drewN_drewN _ _ _⟩ | exact ⟨rfl, _, Eq.trans (World.drewN_drewN _ _ _) (congrArg (World.drewN _) (Nat.add_assoc _ _ _))⟩))))
        go_ret
        exact ⟨by first | rfl | (simp [errW_none, errW_some] <;> rfl) | (simp [*, errW_none, errW_some] <;> rfl) | (simp [errW_none, errW_some]; generalize ByteArray.toList _ = l_; cases l_ <;> rfl), by repeat (first | (with_reducible first | exact HB.out | apply below_alloc | apply pw_below_drewN | apply below_drew1) | exact HB.out)⟩
       ·
        rw [if_neg c8] at H
        have c8b0 : decide (0 ≤ t157) = false := decide_eq_false c8
        clear c8
        have H' := Aside0.mk H
        clear H
        have q12 : (x3_1 : Int) ≤ ((l0.length : Int) : Int) := of_decide_eq_true (by first | (with_reducible assumption) | assumption)
        obtain ⟨i012, hi012, _, hsz12, _⟩ := info_parts info51
        have hroom12 : l0.length ≤ c0 := HC0.out
        have hC12 : Kd.C k51 _ A0 l0.length l0 := HR0.out
        have hcut12 := cut_to (P := Tryd.prog) 22 51 .i64 Tryd.underlying22 hi012 A0 l0.length c0 x3_1 (of_decide_eq_true (by first | (with_reducible assumption) | assumption)) q12 hroom12
        have hr12 := Kd.C_take (m := (x3_1 : Int).toNat) hC12 (by omega)
        have hy12 : y144.length = (x3_1 : Int).toNat := (by rw [Ny144.out, List.length_take]; omega)
        rw [← Ny144.out] at hr12
        rw [← hy12] at hcut12
        have HR147 := Aside0.mk hr12
        have HC147 := Aside0.mk (show y144.length ≤ c0 from by omega)
        clear hr12 hC12 hroom12 hi012 hsz12
        have KY12 := Aside0.mk hy12
        clear hy12
        replace q12 := eq_true q12
        go_wp2_with (first | (go_at_call 29; (with_reducible refine (spec_List.calls k1 _ _ y144 t148 t149 _ ?side1 ?side2 A5.out).mono ?_); (case side1 => repeat (first | exact (Kd.C_below HR147.out HB.out) | (with_reducible refine Kd.C_alloc ?_ _) | (with_reducible refine Kd.C_drewN ?_ _) | (with_reducible refine Kd.C_drew ?_))); (case side2 => exact HC147.out); rintro e w13 ⟨v150, v152, rfl, ho0, ho1, hb⟩; have n0_ := Aside0.mk (Kd.R_lower ho0 (below_size (by repeat (first | (with_reducible first | exact HB.out | apply below_alloc | apply pw_below_drewN | apply below_drew1) | exact HB.out)))); have n1_ := Aside0.mk (Kd.R_lower ho1 (below_size (by repeat (first | (with_reducible first | exact HB.out | apply below_alloc | apply pw_below_drewN | apply below_drew1) | exact HB.out)))); have n2_ := Aside0.mk (below_step (by repeat (first | (with_reducible first | exact HB.out | apply below_alloc | apply pw_below_drewN | apply below_drew1) | exact HB.out)) hb); clear HB; have HO151 := n0_; have HO153 := n1_; have HB := n2_; clear n0_ n1_ n2_; (try clear hb); (try clear hb2); (try clear hk); (try clear hi); (try clear ho0); (try clear ho1); have p154 : 0 ≤ (x3_1 : Int) := of_decide_eq_true (by first | (with_reducible assumption) | assumption); have q154 : x3_1 < (l0.length : Int) := of_decide_eq_true (by first | (with_reducible assumption) | assumption); obtain ⟨ad154, e154, hx154_0, hx154_1, hx154_2⟩ := at_T51 HR0.out x3_1 p154 q154; cases e154; replace hx154_0 := (HB.out.cell (World.block_lt_of_cell? w _ hx154_0)).trans hx154_0; replace hx154_1 := (HB.out.cell (World.block_lt_of_cell? w _ hx154_1)).trans hx154_1; replace hx154_2 := (HB.out.cell (World.block_lt_of_cell? w _ hx154_2)).trans hx154_2; replace p154 := eq_true p154; replace q154 := eq_true q154; have p155 : 0 ≤ (x3_1 : Int) := of_decide_eq_true (by first | (with_reducible assumption) | assumption); have q155 : x3_1 < (l0.length : Int) := of_decide_eq_true (by first | (with_reducible assumption) | assumption); obtain ⟨ad155, e155, hx155_0, hx155_1, hx155_2⟩ := at_T51 HR0.out x3_1 p155 q155; obtain rfl : ad154 = ad155 := (by injection e155); replace hx155_0 := (HB.out.cell (World.block_lt_of_cell? w _ hx155_0)).trans hx155_0; replace hx155_1 := (HB.out.cell (World.block_lt_of_cell? w _ hx155_1)).trans hx155_1; replace hx155_2 := (HB.out.cell (World.block_lt_of_cell? w _ hx155_2)).trans hx155_2; replace p155 := eq_true p155; replace q155 := eq_true q155; have p156 : 0 ≤ (x3_1 : Int) := of_decide_eq_true (by first | (with_reducible assumption) | assumption); have q156 : x3_1 < (l0.length : Int) := of_decide_eq_true (by first | (with_reducible assumption) | assumption); obtain ⟨ad156, e156, hx156_0, hx156_1, hx156_2⟩ := at_T51 HR0.out x3_1 p156 q156; obtain rfl : ad154 = ad156 := (by injection e156); replace hx156_0 := (HB.out.cell (World.block_lt_of_cell? w _ hx156_0)).trans hx156_0; replace hx156_1 := (HB.out.cell (World.block_lt_of_cell? w _ hx156_1)).trans hx156_1; replace hx156_2 := (HB.out.cell (World.block_lt_of_cell? w _ hx156_2)).trans hx156_2; replace p156 := eq_true p156; replace q156 := eq_true q156; obtain ⟨Ao14, co14, eo14⟩ := Kd.R_slice HO151.out; subst eo14) | (go_at_call 44; (with_reducible refine (spec_place.calls k1 _ _ t148 ((rd_T51 l0 x3_1).f1) ((rd_T51 l0 x3_1).f2) t157 _ ?side1 ?side2 A7.out).mono ?_); (case side1 => repeat (first | exact (Kd.R_reads' HO151.out).2.2 | (with_reducible refine Kd.C_alloc ?_ _) | (with_reducible refine Kd.C_drewN ?_ _) | (with_reducible refine Kd.C_drew ?_))); (case side2 => exact (Kd.R_reads' HO151.out).2.1); rintro e w' ⟨rfl, ⟨nd, rfl⟩⟩; (try first | exact ⟨rfl, _, World.drewN_drewN _ _ _⟩ | exact ⟨rfl, _, Eq.trans (World.drewN_drewN _ _ _) (congrArg (World.drewN _) (Nat.add_assoc _ _ _))⟩)))
        repeat (go_quiet (first | (go_at_call 29; (with_reducible refine (spec_List.calls k1 _ _ y144 t148 t149 _ ?side1 ?side2 A5.out).mono ?_); (case side1 => repeat (first | exact (Kd.C_below HR147.out HB.out) | (with_reducible refine Kd.C_alloc ?_ _) | (with_reducible refine Kd.C_drewN ?_ _) | (with_reducible refine Kd.C_drew ?_))); (case side2 => exact HC147.out); rintro e w13 ⟨v150, v152, rfl, ho0, ho1, hb⟩; have n0_ := Aside0.mk (Kd.R_lower ho0 (below_size (by repeat (first | (with_reducible first | exact HB.out | apply below_alloc | apply pw_below_drewN | apply below_drew1) | exact HB.out)))); have n1_ := Aside0.mk (Kd.R_lower ho1 (below_size (by repeat (first | (with_reducible first | exact HB.out | apply below_alloc | apply pw_below_drewN | apply below_drew1) | exact HB.out)))); have n2_ := Aside0.mk (below_step (by repeat (first | (with_reducible first | exact HB.out | apply below_alloc | apply pw_below_drewN | apply below_drew1) | exact HB.out)) hb); clear HB; have HO151 := n0_; have HO153 := n1_; have HB := n2_; clear n0_ n1_ n2_; (try clear hb); (try clear hb2); (try clear hk); (try clear hi); (try clear ho0); (try clear ho1); have p154 : 0 ≤ (x3_1 : Int) := of_decide_eq_true (by first | (with_reducible assumption) | assumption); have q154 : x3_1 < (l0.length : Int) := of_decide_eq_true (by first | (with_reducible assumption) | assumption); obtain ⟨ad154, e154, hx154_0, hx154_1, hx154_2⟩ := at_T51 HR0.out x3_1 p154 q154; cases e154; replace hx154_0 := (HB.out.cell (World.block_lt_of_cell? w _ hx154_0)).trans hx154_0; replace hx154_1 := (HB.out.cell (World.block_lt_of_cell? w _ hx154_1)).trans hx154_1; replace hx154_2 := (HB.out.cell (World.block_lt_of_cell? w _ hx154_2)).trans hx154_2; replace p154 := eq_true p154; replace q154 := eq_true q154; have p155 : 0 ≤ (x3_1 : Int) := of_decide_eq_true (by first | (with_reducible assumption) | assumption); have q155 : x3_1 < (l0.length : Int) := of_decide_eq_true (by first | (with_reducible assumption) | assumption); obtain ⟨ad155, e155, hx155_0, hx155_1, hx155_2⟩ := at_T51 HR0.out x3_1 p155 q155; obtain rfl : ad154 = ad155 := (by injection e155); replace hx155_0 := (HB.out.cell (World.block_lt_of_cell? w _ hx155_0)).trans hx155_0; replace hx155_1 := (HB.out.cell (World.block_lt_of_cell? w _ hx155_1)).trans hx155_1; replace hx155_2 := (HB.out.cell (World.block_lt_of_cell? w _ hx155_2)).trans hx155_2; replace p155 := eq_true p155; replace q155 := eq_true q155; have p156 : 0 ≤ (x3_1 : Int) := of_decide_eq_true (by first | (with_reducible assumption) | assumption); have q156 : x3_1 < (l0.length : Int) := of_decide_eq_true (by first | (with_reducible assumption) | assumption); obtain ⟨ad156, e156, hx156_0, hx156_1, hx156_2⟩ := at_T51 HR0.out x3_1 p156 q156; obtain rfl : ad154 = ad156 := (by injection e156); replace hx156_0 := (HB.out.cell (World.block_lt_of_cell? w _ hx156_0)).trans hx156_0; replace hx156_1 := (HB.out.cell (World.block_lt_of_cell? w _ hx156_1)).trans hx156_1; replace hx156_2 := (HB.out.cell (World.block_lt_of_cell? w _ hx156_2)).trans hx156_2; replace p156 := eq_true p156; replace q156 := eq_true q156; obtain ⟨Ao14, co14, eo14⟩ := Kd.R_slice HO151.out; subst eo14) | (go_at_call 44; (with_reducible refine (spec_place.calls k1 _ _ t148 ((rd_T51 l0 x3_1).f1) ((rd_T51 l0 x3_1).f2) t157 _ ?side1 ?side2 A7.out).mono ?_); (case side1 => repeat (first | exact (Kd.R_reads' HO151.out).2.2 | (with_reducible refine Kd.C_alloc ?_ _) | (with_reducible refine Kd.C_drewN ?_ _) | (with_reducible refine Kd.C_drew ?_))); (case side2 => exact (Kd.R_reads' HO151.out).2.1); rintro e w' ⟨rfl, ⟨nd, rfl⟩⟩; (try first | exact ⟨rfl, _, World.drewN_drewN _ _ _⟩ | exact ⟨rfl, _, Eq.trans (World.drewN_drewN _ _ _) (congrArg (World.drewN _) (Nat.add_assoc _ _ _))⟩))); try go_wp2_with (first | (go_at_call 29; (with_reducible refine (spec_List.calls k1 _ _ y144 t148 t149 _ ?side1 ?side2 A5.out).mono ?_); (case side1 => repeat (first | exact (Kd.C_below HR147.out HB.out) | (with_reducible refine Kd.C_alloc ?_ _) | (with_reducible refine Kd.C_drewN ?_ _) | (with_reducible refine Kd.C_drew ?_))); (case side2 => exact HC147.out); rintro e w13 ⟨v150, v152, rfl, ho0, ho1, hb⟩; have n0_ := Aside0.mk (Kd.R_lower ho0 (below_size (by repeat (first | (with_reducible first | exact HB.out | apply below_alloc | apply pw_below_drewN | apply below_drew1) | exact HB.out)))); have n1_ := Aside0.mk (Kd.R_lower ho1 (below_size (by repeat (first | (with_reducible first | exact HB.out | apply below_alloc | apply pw_below_drewN | apply below_drew1) | exact HB.out)))); have n2_ := Aside0.mk (below_step (by repeat (first | (with_reducible first | exact HB.out | apply below_alloc | apply pw_below_drewN | apply below_drew1) | exact HB.out)) hb); clear HB; have HO151 := n0_; have HO153 := n1_; have HB := n2_; clear n0_ n1_ n2_; (try clear hb); (try clear hb2); (try clear hk); (try clear hi); (try clear ho0); (try clear ho1); have p154 : 0 ≤ (x3_1 : Int) := of_decide_eq_true (by first | (with_reducible assumption) | assumption); have q154 : x3_1 < (l0.length : Int) := of_decide_eq_true (by first | (with_reducible assumption) | assumption); obtain ⟨ad154, e154, hx154_0, hx154_1, hx154_2⟩ := at_T51 HR0.out x3_1 p154 q154; cases e154; replace hx154_0 := (HB.out.cell (World.block_lt_of_cell? w _ hx154_0)).trans hx154_0; replace hx154_1 := (HB.out.cell (World.block_lt_of_cell? w _ hx154_1)).trans hx154_1; replace hx154_2 := (HB.out.cell (World.block_lt_of_cell? w _ hx154_2)).trans hx154_2; replace p154 := eq_true p154; replace q154 := eq_true q154; have p155 : 0 ≤ (x3_1 : Int) := of_decide_eq_true (by first | (with_reducible assumption) | assumption); have q155 : x3_1 < (l0.length : Int) := of_decide_eq_true (by first | (with_reducible assumption) | assumption); obtain ⟨ad155, e155, hx155_0, hx155_1, hx155_2⟩ := at_T51 HR0.out x3_1 p155 q155; obtain rfl : ad154 = ad155 := (by injection e155); replace hx155_0 := (HB.out.cell (World.block_lt_of_cell? w _ hx155_0)).trans hx155_0; replace hx155_1 := (HB.out.cell (World.block_lt_of_cell? w _ hx155_1)).trans hx155_1; replace hx155_2 := (HB.out.cell (World.block_lt_of_cell? w _ hx155_2)).trans hx155_2; replace p155 := eq_true p155; replace q155 := eq_true q155; have p156 : 0 ≤ (x3_1 : Int) := of_decide_eq_true (by first | (with_reducible assumption) | assumption); have q156 : x3_1 < (l0.length : Int) := of_decide_eq_true (by first | (with_reducible assumption) | assumption); obtain ⟨ad156, e156, hx156_0, hx156_1, hx156_2⟩ := at_T51 HR0.out x3_1 p156 q156; obtain rfl : ad154 = ad156 := (by injection e156); replace hx156_0 := (HB.out.cell (World.block_lt_of_cell? w _ hx156_0)).trans hx156_0; replace hx156_1 := (HB.out.cell (World.block_lt_of_cell? w _ hx156_1)).trans hx156_1; replace hx156_2 := (HB.out.cell (World.block_lt_of_cell? w _ hx156_2)).trans hx156_2; replace p156 := eq_true p156; replace q156 := eq_true q156; obtain ⟨Ao14, co14, eo14⟩ := Kd.R_slice HO151.out; subst eo14) | (go_at_call 44; (with_reducible refine (spec_place.calls k1 _ _ t148 ((rd_T51 l0 x3_1).f1) ((rd_T51 l0 x3_1).f2) t157 _ ?side1 ?side2 A7.out).mono ?_); (case side1 => repeat (first | exact (Kd.R_reads' HO151.out).2.2 | (with_reducible refine Kd.C_alloc ?_ _) | (with_reducible refine Kd.C_drewN ?_ _) | (with_reducible refine Kd.C_drew ?_))); (case side2 => exact (Kd.R_reads' HO151.out).2.1); rintro e w' ⟨rfl, ⟨nd, rfl⟩⟩; (try first | exact ⟨rfl, _, World.drewN_drewN _ _ _⟩ | exact ⟨rfl, _, Eq.trans (World.drewN_drewN _ _ _) (congrArg (World.drewN _) (Nat.add_assoc _ _ _))⟩))))
        go_roundg k1
        case measure => have := HK1.out; omega
        case rel => exact ⟨(wrap64 (x3_1 + 1)), (by first | rfl | (simp; done) | (simp [*]; done)), H', ⟨by have := HK1.out; omega⟩, ⟨by repeat (first | (with_reducible first | exact HB.out | apply below_alloc | apply pw_below_drewN | apply below_drew1) | exact HB.out)⟩⟩
      ·
       rw [if_neg c6] at H
       have c6b0 : (((rd_T51 l0 x3_1).f0) == 0) = false := beq_eq_false_iff_ne.mpr c6
       have c6b1 : (((rd_T51 l0 x3_1).f0) != 0) = true := bne_iff_ne.mpr c6
       have H' := Aside0.mk H
       clear H
       have q15 : (x3_1 : Int) ≤ ((l0.length : Int) : Int) := of_decide_eq_true (by first | (with_reducible assumption) | assumption)
       obtain ⟨i015, hi015, _, hsz15, _⟩ := info_parts info51
       have hroom15 : l0.length ≤ c0 := HC0.out
       have hC15 : Kd.C k51 _ A0 l0.length l0 := HR0.out
       have hcut15 := cut_to (P := Tryd.prog) 22 51 .i64 Tryd.underlying22 hi015 A0 l0.length c0 x3_1 (of_decide_eq_true (by first | (with_reducible assumption) | assumption)) q15 hroom15
       have hr15 := Kd.C_take (m := (x3_1 : Int).toNat) hC15 (by omega)
       have hy15 : y144.length = (x3_1 : Int).toNat := (by rw [Ny144.out, List.length_take]; omega)
       rw [← Ny144.out] at hr15
       rw [← hy15] at hcut15
       have HR147 := Aside0.mk hr15
       have HC147 := Aside0.mk (show y144.length ≤ c0 from by omega)
       clear hr15 hC15 hroom15 hi015 hsz15
       have KY15 := Aside0.mk hy15
       clear hy15
       replace q15 := eq_true q15
       go_wp2_with (first | (go_at_call 29; (with_reducible refine (spec_List.calls k1 _ _ y144 t148 t149 _ ?side1 ?side2 A5.out).mono ?_); (case side1 => repeat (first | exact (Kd.C_below HR147.out HB.out) | (with_reducible refine Kd.C_alloc ?_ _) | (with_reducible refine Kd.C_drewN ?_ _) | (with_reducible refine Kd.C_drew ?_))); (case side2 => exact HC147.out); rintro e w16 ⟨v150, v152, rfl, ho0, ho1, hb⟩; have n0_ := Aside0.mk (Kd.R_lower ho0 (below_size (by repeat (first | (with_reducible first | exact HB.out | apply below_alloc | apply pw_below_drewN | apply below_drew1) | exact HB.out)))); have n1_ := Aside0.mk (Kd.R_lower ho1 (below_size (by repeat (first | (with_reducible first | exact HB.out | apply below_alloc | apply pw_below_drewN | apply below_drew1) | exact HB.out)))); have n2_ := Aside0.mk (below_step (by repeat (first | (with_reducible first | exact HB.out | apply below_alloc | apply pw_below_drewN | apply below_drew1) | exact HB.out)) hb); clear HB; have HO151 := n0_; have HO153 := n1_; have HB := n2_; clear n0_ n1_ n2_; (try clear hb); (try clear hb2); (try clear hk); (try clear hi); (try clear ho0); (try clear ho1); have p154 : 0 ≤ (x3_1 : Int) := of_decide_eq_true (by first | (with_reducible assumption) | assumption); have q154 : x3_1 < (l0.length : Int) := of_decide_eq_true (by first | (with_reducible assumption) | assumption); obtain ⟨ad154, e154, hx154_0, hx154_1, hx154_2⟩ := at_T51 HR0.out x3_1 p154 q154; cases e154; replace hx154_0 := (HB.out.cell (World.block_lt_of_cell? w _ hx154_0)).trans hx154_0; replace hx154_1 := (HB.out.cell (World.block_lt_of_cell? w _ hx154_1)).trans hx154_1; replace hx154_2 := (HB.out.cell (World.block_lt_of_cell? w _ hx154_2)).trans hx154_2; replace p154 := eq_true p154; replace q154 := eq_true q154))
       repeat (go_quiet (first | (go_at_call 29; (with_reducible refine (spec_List.calls k1 _ _ y144 t148 t149 _ ?side1 ?side2 A5.out).mono ?_); (case side1 => repeat (first | exact (Kd.C_below HR147.out HB.out) | (with_reducible refine Kd.C_alloc ?_ _) | (with_reducible refine Kd.C_drewN ?_ _) | (with_reducible refine Kd.C_drew ?_))); (case side2 => exact HC147.out); rintro e w16 ⟨v150, v152, rfl, ho0, ho1, hb⟩; have n0_ := Aside0.mk (Kd.R_lower ho0 (below_size (by repeat (first | (with_reducible first | exact HB.out | apply below_alloc | apply pw_below_drewN | apply below_drew1) | exact HB.out)))); have n1_ := Aside0.mk (Kd.R_lower ho1 (below_size (by repeat (first | (with_reducible first | exact HB.out | apply below_alloc | apply pw_below_drewN | apply below_drew1) | exact HB.out)))); have n2_ := Aside0.mk (below_step (by repeat (first | (with_reducible first | exact HB.out | apply below_alloc | apply pw_below_drewN | apply below_drew1) | exact HB.out)) hb); clear HB; have HO151 := n0_; have HO153 := n1_; have HB := n2_; clear n0_ n1_ n2_; (try clear hb); (try clear hb2); (try clear hk); (try clear hi); (try clear ho0); (try clear ho1); have p154 : 0 ≤ (x3_1 : Int) := of_decide_eq_true (by first | (with_reducible assumption) | assumption); have q154 : x3_1 < (l0.length : Int) := of_decide_eq_true (by first | (with_reducible assumption) | assumption); obtain ⟨ad154, e154, hx154_0, hx154_1, hx154_2⟩ := at_T51 HR0.out x3_1 p154 q154; cases e154; replace hx154_0 := (HB.out.cell (World.block_lt_of_cell? w _ hx154_0)).trans hx154_0; replace hx154_1 := (HB.out.cell (World.block_lt_of_cell? w _ hx154_1)).trans hx154_1; replace hx154_2 := (HB.out.cell (World.block_lt_of_cell? w _ hx154_2)).trans hx154_2; replace p154 := eq_true p154; replace q154 := eq_true q154)); try go_wp2_with (first | (go_at_call 29; (with_reducible refine (spec_List.calls k1 _ _ y144 t148 t149 _ ?side1 ?side2 A5.out).mono ?_); (case side1 => repeat (first | exact (Kd.C_below HR147.out HB.out) | (with_reducible refine Kd.C_alloc ?_ _) | (with_reducible refine Kd.C_drewN ?_ _) | (with_reducible refine Kd.C_drew ?_))); (case side2 => exact HC147.out); rintro e w16 ⟨v150, v152, rfl, ho0, ho1, hb⟩; have n0_ := Aside0.mk (Kd.R_lower ho0 (below_size (by repeat (first | (with_reducible first | exact HB.out | apply below_alloc | apply pw_below_drewN | apply below_drew1) | exact HB.out)))); have n1_ := Aside0.mk (Kd.R_lower ho1 (below_size (by repeat (first | (with_reducible first | exact HB.out | apply below_alloc | apply pw_below_drewN | apply below_drew1) | exact HB.out)))); have n2_ := Aside0.mk (below_step (by repeat (first | (with_reducible first | exact HB.out | apply below_alloc | apply pw_below_drewN | apply below_drew1) | exact HB.out)) hb); clear HB; have HO151 := n0_; have HO153 := n1_; have HB := n2_; clear n0_ n1_ n2_; (try clear hb); (try clear hb2); (try clear hk); (try clear hi); (try clear ho0); (try clear ho1); have p154 : 0 ≤ (x3_1 : Int) := of_decide_eq_true (by first | (with_reducible assumption) | assumption); have q154 : x3_1 < (l0.length : Int) := of_decide_eq_true (by first | (with_reducible assumption) | assumption); obtain ⟨ad154, e154, hx154_0, hx154_1, hx154_2⟩ := at_T51 HR0.out x3_1 p154 q154; cases e154; replace hx154_0 := (HB.out.cell (World.block_lt_of_cell? w _ hx154_0)).trans hx154_0; replace hx154_1 := (HB.out.cell (World.block_lt_of_cell? w _ hx154_1)).trans hx154_1; replace hx154_2 := (HB.out.cell (World.block_lt_of_cell? w _ hx154_2)).trans hx154_2; replace p154 := eq_true p154; replace q154 := eq_true q154)))
       go_roundg k1
       case measure => have := HK1.out; omega
       case rel => exact ⟨(wrap64 (x3_1 + 1)), (by first | rfl | (simp; done) | (simp [*]; done)), H', ⟨by have := HK1.out; omega⟩, ⟨by repeat (first | (with_reducible first | exact HB.out | apply below_alloc | apply pw_below_drewN | apply below_drew1) | exact HB.out)⟩⟩
     ·
      rw [if_neg c4] at H
      exact absurd H (by simp)
    ·
     rw [if_neg c3] at H
     exact absurd H (by simp)
   ·
    rw [if_neg c2] at H
    have c2b0 : decide (x3_1 < (l0.length : Int)) = false := decide_eq_false c2
    clear c2
    obtain rfl := Option.some.inj H
    go_wp2
    repeat (go_quiet (fail); try go_wp2)
    go_ret
    exact ⟨by first | rfl | (simp [errW_none, errW_some] <;> rfl) | (simp [*, errW_none, errW_some] <;> rfl) | (simp [errW_none, errW_some]; generalize ByteArray.toList _ = l_; cases l_ <;> rfl), by repeat (first | (with_reducible first | exact HB.out | apply below_alloc | apply pw_below_drewN | apply below_drew1) | exact HB.out)⟩

/-! ### spec_Blank: function 57 -/
def spec_Blank.f (a0 : Int) : Option (Bool) := if a0 = 32 then (some true) else (if a0 = 9 then (some true) else (if a0 = 10 then (some true) else (if a0 = 13 then (some true) else (some (a0 == 12)))))
set_option maxHeartbeats 8000000 in
set_option maxRecDepth 100000 in
theorem spec_Blank.calls (a0 : Int) (r : Bool) (w : World) (h : spec_Blank.f a0 = some r) :
  Calls Tryd.prog 57 #[.int .u8 a0] w fun e w' => e = .returned (.bool r) ∧ Drawn0 w w' := by
 have H : (if a0 = 32 then (some true) else (if a0 = 9 then (some true) else (if a0 = 10 then (some true) else (if a0 = 13 then (some true) else (some (a0 == 12)))))) = some r := h
 clear h
 by_cases c2 : a0 = 32
 ·
  rw [if_pos c2] at H
  have c2b0 : (a0 == 32) = true := beq_iff_eq.mpr c2
  have c2b1 : (a0 != 32) = false := bne_eq_false_iff_eq.mpr c2
  clear c2
  obtain rfl := Option.some.inj H
  go_enter Tryd.func57, Tryd.ntmps57
  go_wp2
  go_ret
  exact ⟨by first | rfl | (simp; done) | (simp [*]; done) | (simp; generalize ByteArray.toList _ = l_; cases l_ <;> rfl), by repeat (first | exact Drawn0.refl _ | apply Drawn0.step)⟩
 ·
  rw [if_neg c2] at H
  have c2b0 : (a0 == 32) = false := beq_eq_false_iff_ne.mpr c2
  have c2b1 : (a0 != 32) = true := bne_iff_ne.mpr c2
  by_cases c3 : a0 = 9
  ·
   rw [if_pos c3] at H
   have c3b0 : (a0 == 9) = true := beq_iff_eq.mpr c3
   have c3b1 : (a0 != 9) = false := bne_eq_false_iff_eq.mpr c3
   clear c3
   obtain rfl := Option.some.inj H
   go_enter Tryd.func57, Tryd.ntmps57
   go_wp2
   go_ret
   exact ⟨by first | rfl | (simp; done) | (simp [*]; done) | (simp; generalize ByteArray.toList _ = l_; cases l_ <;> rfl), by repeat (first | exact Drawn0.refl _ | apply Drawn0.step)⟩
  ·
   rw [if_neg c3] at H
   have c3b0 : (a0 == 9) = false := beq_eq_false_iff_ne.mpr c3
   have c3b1 : (a0 != 9) = true := bne_iff_ne.mpr c3
   by_cases c4 : a0 = 10
   ·
    rw [if_pos c4] at H
    have c4b0 : (a0 == 10) = true := beq_iff_eq.mpr c4
    have c4b1 : (a0 != 10) = false := bne_eq_false_iff_eq.mpr c4
    clear c4
    obtain rfl := Option.some.inj H
    go_enter Tryd.func57, Tryd.ntmps57
    go_wp2
    go_ret
    exact ⟨by first | rfl | (simp; done) | (simp [*]; done) | (simp; generalize ByteArray.toList _ = l_; cases l_ <;> rfl), by repeat (first | exact Drawn0.refl _ | apply Drawn0.step)⟩
   ·
    rw [if_neg c4] at H
    have c4b0 : (a0 == 10) = false := beq_eq_false_iff_ne.mpr c4
    have c4b1 : (a0 != 10) = true := bne_iff_ne.mpr c4
    by_cases c5 : a0 = 13
    ·
     rw [if_pos c5] at H
     have c5b0 : (a0 == 13) = true := beq_iff_eq.mpr c5
     have c5b1 : (a0 != 13) = false := bne_eq_false_iff_eq.mpr c5
     clear c5
     obtain rfl := Option.some.inj H
     go_enter Tryd.func57, Tryd.ntmps57
     go_wp2
     go_ret
     exact ⟨by first | rfl | (simp; done) | (simp [*]; done) | (simp; generalize ByteArray.toList _ = l_; cases l_ <;> rfl), by repeat (first | exact Drawn0.refl _ | apply Drawn0.step)⟩
    ·
     rw [if_neg c5] at H
     have c5b0 : (a0 == 13) = false := beq_eq_false_iff_ne.mpr c5
     have c5b1 : (a0 != 13) = true := bne_iff_ne.mpr c5
     obtain rfl := Option.some.inj H
     go_enter Tryd.func57, Tryd.ntmps57
     go_wp2
     go_ret
     exact ⟨by first | rfl | (simp; done) | (simp [*]; done) | (simp; generalize ByteArray.toList _ = l_; cases l_ <;> rfl), by repeat (first | exact Drawn0.refl _ | apply Drawn0.step)⟩

/-! ### spec_Spaced: function 46 -/
def spec_Spaced.l0 : Nat → ByteArray → Int → Option (Bool)
 | 0, _, _ => none
 | k + 1, x0, x3 => if x3 < (x0.size : Int) then (if 0 ≤ x3 then ((spec_Blank.f (bt x0 x3)).bind fun t158 => (if t158 = true then (some true) else (spec_Spaced.l0 k x0 (wrap64 (x3 + 1))))) else (none)) else (some false)
def spec_Spaced.f (k : Nat) (a0 : ByteArray) : Option (Bool) := spec_Spaced.l0 k a0 0
theorem spec_Spaced.mono_l : ∀ k, (∀ y0 y1, LeO (spec_Spaced.l0 k y0 y1) (spec_Spaced.l0 (k + 1) y0 y1))
 | 0 => fun _ _ r h => by simp [spec_Spaced.l0] at h
 | k + 1 => by
  have ih0 := spec_Spaced.mono_l k
  ·
   intro y0 y1
   unfold spec_Spaced.l0
   repeat' first
   | (with_reducible exact ih0 _ _)
   | (with_reducible exact LeO.refl _)
   | (with_reducible exact LeO.none _)
   | (with_reducible refine LeO.ite ?_ ?_)
   | (with_reducible refine LeO.bind ?_ (fun _ => ?_))
   | exact ih0 _ _
   | exact LeO.none _
   | refine LeO.ite ?_ ?_
   | refine LeO.bind ?_ (fun _ => ?_)
theorem spec_Spaced.mono : ∀ a0 k, LeO (spec_Spaced.f k a0) (spec_Spaced.f (k + 1) a0) := by
 intro a0 k
 have ih0 := spec_Spaced.mono_l k
 unfold spec_Spaced.f
 repeat' first
   | (with_reducible exact ih0 _ _)
   | (with_reducible exact LeO.refl _)
   | (with_reducible exact LeO.none _)
   | (with_reducible refine LeO.ite ?_ ?_)
   | (with_reducible refine LeO.bind ?_ (fun _ => ?_))
   | exact ih0 _ _
   | exact LeO.none _
   | refine LeO.ite ?_ ?_
   | refine LeO.bind ?_ (fun _ => ?_)
set_option maxHeartbeats 8000000 in
set_option maxRecDepth 100000 in
theorem spec_Spaced.calls (k : Nat) (a0 : ByteArray) (r : Bool) (w : World) (h : spec_Spaced.f k a0 = some r) :
  Calls Tryd.prog 46 #[.string a0] w fun e w' => e = .returned (.bool r) ∧ Drawn0 w w' := by
 have H : (spec_Spaced.l0 k a0 0) = some r := h
 clear h
 have H' := Aside0.mk H
 clear H
 go_enter Tryd.func46, Tryd.ntmps46
 go_wp2
 go_loopg [3] k (fun kq v3 w' => ∃ (x3_1 : Int), v3 = .int .i64 x3_1 ∧ Aside0 (spec_Spaced.l0 kq a0 x3_1 = some r) ∧ Aside0 (kq ≤ k) ∧ Drawn0 w w')
 case atStart => exact ⟨(0), (by first | rfl | (simp; done) | (simp [*]; done)), H', ⟨Nat.le_refl _⟩, by repeat (first | exact Drawn0.refl _ | apply Drawn0.step)⟩
 case round =>
  clear H'
  obtain ⟨x3_1, rfl, HA, HK1, ⟨m1, rfl⟩⟩ := hrel
  cases gk with
  | zero => exact absurd HA.out (by simp [spec_Spaced.l0])
  | succ k1 =>
   have H := HA.out
   clear HA
   simp only [spec_Spaced.l0] at H
   by_cases c2 : x3_1 < (a0.size : Int)
   ·
    rw [if_pos c2] at H
    have c2b0 : decide (x3_1 < (a0.size : Int)) = true := decide_eq_true c2
    clear c2
    by_cases c3 : 0 ≤ x3_1
    ·
     rw [if_pos c3] at H
     have c3b0 : decide (0 ≤ x3_1) = true := decide_eq_true c3
     clear c3
     replace H := Option.bind_eq_some_iff.mp H
     obtain ⟨t158, A50, H⟩ := H
     replace H : (if t158 = true then (some true) else (spec_Spaced.l0 k1 a0 (wrap64 (x3_1 + 1)))) = some r := H
     have A5 := Aside0.mk A50
     clear A50
     by_cases c6 : t158 = true
     ·
      subst c6
      have H1 : (some true) = some r := by rw [if_pos rfl] at H; exact H
      clear H
      have H := H1
      clear H1
      obtain rfl := Option.some.inj H
      have p4 : 0 ≤ (x3_1 : Int) := of_decide_eq_true (by first | (with_reducible assumption) | assumption)
      have q4 : x3_1 < (a0.size : Int) := of_decide_eq_true (by first | (with_reducible assumption) | assumption)
      have hx4 := bt_at a0 x3_1
      replace p4 := eq_true p4
      replace q4 := eq_true q4
      go_wp2_with (first | ((with_reducible refine gate_callee (f := 57) rfl ?_); refine goesL_ (some 13) rfl rfl Tryd.func57 (by kernel_rfl) rfl #[.int .u8 (bt a0 x3_1)] rfl (by (try simp only [List.map_toArray, List.map_cons, List.map_nil]); first | done | rfl | (simp only [List.length_drop, List.length_take]; rfl)) ?_; (with_reducible refine (spec_Blank.calls (bt a0 x3_1) true _ A5.out).mono ?_); rintro e w' ⟨rfl, ⟨nd, rfl⟩⟩; refine ⟨_, rfl, ?_⟩))
      go_ret
      exact ⟨by first | rfl | (simp; done) | (simp [*]; done) | (simp; generalize ByteArray.toList _ = l_; cases l_ <;> rfl), by repeat (first | exact Drawn0.refl _ | apply Drawn0.step)⟩
     ·
      replace c6 := Bool.eq_false_iff.mpr c6
      subst c6
      have H1 : (spec_Spaced.l0 k1 a0 (wrap64 (x3_1 + 1))) = some r := by rw [if_neg (show ¬ (false = true) by decide)] at H; exact H
      clear H
      have H := H1
      clear H1
      have H' := Aside0.mk H
      clear H
      have p4 : 0 ≤ (x3_1 : Int) := of_decide_eq_true (by first | (with_reducible assumption) | assumption)
      have q4 : x3_1 < (a0.size : Int) := of_decide_eq_true (by first | (with_reducible assumption) | assumption)
      have hx4 := bt_at a0 x3_1
      replace p4 := eq_true p4
      replace q4 := eq_true q4
      go_wp2_with (first | ((with_reducible refine gate_callee (f := 57) rfl ?_); refine goesL_ (some 13) rfl rfl Tryd.func57 (by kernel_rfl) rfl #[.int .u8 (bt a0 x3_1)] rfl (by (try simp only [List.map_toArray, List.map_cons, List.map_nil]); first | done | rfl | (simp only [List.length_drop, List.length_take]; rfl)) ?_; (with_reducible refine (spec_Blank.calls (bt a0 x3_1) false _ A5.out).mono ?_); rintro e w' ⟨rfl, ⟨nd, rfl⟩⟩; refine ⟨_, rfl, ?_⟩))
      go_roundg k1
      case measure => have := HK1.out; omega
      case rel => exact ⟨(wrap64 (x3_1 + 1)), (by first | rfl | (simp; done) | (simp [*]; done)), H', ⟨by have := HK1.out; omega⟩, by repeat (first | exact Drawn0.refl _ | apply Drawn0.step)⟩
    ·
     rw [if_neg c3] at H
     exact absurd H (by simp)
   ·
    rw [if_neg c2] at H
    have c2b0 : decide (x3_1 < (a0.size : Int)) = false := decide_eq_false c2
    clear c2
    obtain rfl := Option.some.inj H
    go_wp2
    go_ret
    exact ⟨by first | rfl | (simp; done) | (simp [*]; done) | (simp; generalize ByteArray.toList _ = l_; cases l_ <;> rfl), by repeat (first | exact Drawn0.refl _ | apply Drawn0.step)⟩

/-! ### spec_Valid: function 28 -/
def spec_Valid.f (k : Nat) (a0 : ByteArray) : Option (Bool) := (spec_Tokens.f k a0).bind fun t159 => ((spec_Formed.f k t159).bind fun t162 => (if t162 = true then ((spec_Spaced.f k a0).bind fun t163 => (some (!t163))) else (some false)))
theorem spec_Valid.mono : ∀ a0 k, LeO (spec_Valid.f k a0) (spec_Valid.f (k + 1) a0) := by
 intro a0 k
 unfold spec_Valid.f
 repeat' first
   | (with_reducible exact spec_Formed.mono _ _)
   | (with_reducible exact spec_Spaced.mono _ _)
   | (with_reducible exact spec_Tokens.mono _ _)
   | (with_reducible exact LeO.refl _)
   | (with_reducible exact LeO.none _)
   | (with_reducible refine LeO.ite ?_ ?_)
   | (with_reducible refine LeO.bind ?_ (fun _ => ?_))
   | exact spec_Formed.mono _ _
   | exact spec_Spaced.mono _ _
   | exact spec_Tokens.mono _ _
   | exact LeO.none _
   | refine LeO.ite ?_ ?_
   | refine LeO.bind ?_ (fun _ => ?_)
set_option maxHeartbeats 8000000 in
set_option maxRecDepth 100000 in
theorem spec_Valid.calls (k : Nat) (a0 : ByteArray) (r : Bool) (w : World) (h : spec_Valid.f k a0 = some r) :
  Calls Tryd.prog 28 #[.string a0] w fun e w' => e = .returned (.bool r) ∧ Below w.heap.size w w' := by
 have HB := Aside0.mk (Below.refl w.heap.size w)
 have H : ((spec_Tokens.f k a0).bind fun t159 => ((spec_Formed.f k t159).bind fun t162 => (if t162 = true then ((spec_Spaced.f k a0).bind fun t163 => (some (!t163))) else (some false)))) = some r := h
 clear h
 replace H := Option.bind_eq_some_iff.mp H
 obtain ⟨t159, A20, H⟩ := H
 replace H : ((spec_Formed.f k t159).bind fun t162 => (if t162 = true then ((spec_Spaced.f k a0).bind fun t163 => (some (!t163))) else (some false))) = some r := H
 have A2 := Aside0.mk A20
 clear A20
 replace H := Option.bind_eq_some_iff.mp H
 obtain ⟨t162, A30, H⟩ := H
 replace H : (if t162 = true then ((spec_Spaced.f k a0).bind fun t163 => (some (!t163))) else (some false)) = some r := H
 have A3 := Aside0.mk A30
 clear A30
 by_cases c4 : t162 = true
 ·
  subst c4
  have H1 : ((spec_Spaced.f k a0).bind fun t163 => (some (!t163))) = some r := by rw [if_pos rfl] at H; exact H
  clear H
  have H := H1
  clear H1
  replace H := Option.bind_eq_some_iff.mp H
  obtain ⟨t163, A50, H⟩ := H
  replace H : (some (!t163)) = some r := H
  have A5 := Aside0.mk A50
  clear A50
  obtain rfl := Option.some.inj H
  go_enter Tryd.func28, Tryd.ntmps28
  go_wp2_with (first | ((with_reducible refine gate_callee (f := 32) rfl ?_); refine goesL_ (some 4) rfl rfl Tryd.func32 (by kernel_rfl) rfl #[.string a0] rfl (by (try simp only [List.map_toArray, List.map_cons, List.map_nil]); first | done | rfl | (simp only [List.length_drop, List.length_take]; rfl)) ?_; (with_reducible refine (spec_Tokens.calls k a0 t159 _ A2.out).mono ?_); rintro e w6 ⟨v160, rfl, ho0, hb⟩; refine ⟨_, rfl, ?_⟩; have n0_ := Aside0.mk (Kd.R_lower ho0 (below_size (by repeat (first | (with_reducible first | exact HB.out | apply below_alloc | apply pw_below_drewN | apply below_drew1) | exact HB.out)))); have n1_ := Aside0.mk (below_step (by repeat (first | (with_reducible first | exact HB.out | apply below_alloc | apply pw_below_drewN | apply below_drew1) | exact HB.out)) hb); clear HB; have HO161 := n0_; have HB := n1_; clear n0_ n1_; (try clear hb); (try clear hb2); (try clear hk); (try clear hi); (try clear ho0); obtain ⟨Ao7, co7, eo7⟩ := Kd.R_slice HO161.out; subst eo7) | ((with_reducible refine gate_callee (f := 45) rfl ?_); refine goesL_ (some 5) rfl rfl Tryd.func45 (by kernel_rfl) rfl #[.slice Ao7 t159.length co7] rfl (by (try simp only [List.map_toArray, List.map_cons, List.map_nil]); first | done | rfl | (simp only [List.length_drop, List.length_take]; rfl)) ?_; (with_reducible refine (spec_Formed.calls k _ _ t159 true _ ?side1 ?side2 A3.out).mono ?_); (case side1 => repeat (first | exact (Kd.R_reads' HO161.out).2.2 | (with_reducible refine Kd.C_alloc ?_ _) | (with_reducible refine Kd.C_drewN ?_ _) | (with_reducible refine Kd.C_drew ?_))); (case side2 => exact (Kd.R_reads' HO161.out).2.1); rintro e w' ⟨rfl, ⟨nd, rfl⟩⟩; refine ⟨_, rfl, ?_⟩) | (go_at_call 46; (with_reducible refine (spec_Spaced.calls k a0 t163 _ A5.out).mono ?_); rintro e w' ⟨rfl, ⟨nd, rfl⟩⟩))
  go_ret
  exact ⟨by first | rfl | (simp [errW_none, errW_some] <;> rfl) | (simp [*, errW_none, errW_some] <;> rfl) | (simp [errW_none, errW_some]; generalize ByteArray.toList _ = l_; cases l_ <;> rfl), by repeat (first | (with_reducible first | exact HB.out | apply below_alloc | apply pw_below_drewN | apply below_drew1) | exact HB.out)⟩
 ·
  replace c4 := Bool.eq_false_iff.mpr c4
  subst c4
  have H1 : (some false) = some r := by rw [if_neg (show ¬ (false = true) by decide)] at H; exact H
  clear H
  have H := H1
  clear H1
  obtain rfl := Option.some.inj H
  go_enter Tryd.func28, Tryd.ntmps28
  go_wp2_with (first | ((with_reducible refine gate_callee (f := 32) rfl ?_); refine goesL_ (some 4) rfl rfl Tryd.func32 (by kernel_rfl) rfl #[.string a0] rfl (by (try simp only [List.map_toArray, List.map_cons, List.map_nil]); first | done | rfl | (simp only [List.length_drop, List.length_take]; rfl)) ?_; (with_reducible refine (spec_Tokens.calls k a0 t159 _ A2.out).mono ?_); rintro e w8 ⟨v160, rfl, ho0, hb⟩; refine ⟨_, rfl, ?_⟩; have n0_ := Aside0.mk (Kd.R_lower ho0 (below_size (by repeat (first | (with_reducible first | exact HB.out | apply below_alloc | apply pw_below_drewN | apply below_drew1) | exact HB.out)))); have n1_ := Aside0.mk (below_step (by repeat (first | (with_reducible first | exact HB.out | apply below_alloc | apply pw_below_drewN | apply below_drew1) | exact HB.out)) hb); clear HB; have HO161 := n0_; have HB := n1_; clear n0_ n1_; (try clear hb); (try clear hb2); (try clear hk); (try clear hi); (try clear ho0); obtain ⟨Ao9, co9, eo9⟩ := Kd.R_slice HO161.out; subst eo9) | ((with_reducible refine gate_callee (f := 45) rfl ?_); refine goesL_ (some 5) rfl rfl Tryd.func45 (by kernel_rfl) rfl #[.slice Ao9 t159.length co9] rfl (by (try simp only [List.map_toArray, List.map_cons, List.map_nil]); first | done | rfl | (simp only [List.length_drop, List.length_take]; rfl)) ?_; (with_reducible refine (spec_Formed.calls k _ _ t159 false _ ?side1 ?side2 A3.out).mono ?_); (case side1 => repeat (first | exact (Kd.R_reads' HO161.out).2.2 | (with_reducible refine Kd.C_alloc ?_ _) | (with_reducible refine Kd.C_drewN ?_ _) | (with_reducible refine Kd.C_drew ?_))); (case side2 => exact (Kd.R_reads' HO161.out).2.1); rintro e w' ⟨rfl, ⟨nd, rfl⟩⟩; refine ⟨_, rfl, ?_⟩))
  go_ret
  exact ⟨by first | rfl | (simp [errW_none, errW_some] <;> rfl) | (simp [*, errW_none, errW_some] <;> rfl) | (simp [errW_none, errW_some]; generalize ByteArray.toList _ = l_; cases l_ <;> rfl), by repeat (first | (with_reducible first | exact HB.out | apply below_alloc | apply pw_below_drewN | apply below_drew1) | exact HB.out)⟩

/-! ### laws_listed: function 9 -/
mutual
def laws_listed.j0 : Nat → List (S51) → Bool → Option ((List (S31)) × Bool)
 | 0, _, _ => none
 | k + 1, x0, x13 => if x13 = true then (some (([] : List (S31)), false)) else (laws_listed.l0 k x0 0)
def laws_listed.l0 : Nat → List (S51) → Int → Option ((List (S31)) × Bool)
 | 0, _, _ => none
 | k + 1, x0, x4 => if x4 < (x0.length : Int) then (if 0 ≤ x4 then (if ((rd_T51 x0 x4).f0) = 0 then ((spec_Valid.f k ((rd_T51 x0 x4).f1)).bind fun t168 => (if t168 = true then (laws_listed.l0 k x0 (wrap64 (x4 + 1))) else (some (([] : List (S31)), false)))) else (laws_listed.l0 k x0 (wrap64 (x4 + 1)))) else (none)) else ((spec_List.f k x0).bind fun bt169 => (some (bt169.1, true)))
end
def laws_listed.f (k : Nat) (l0 : List (S51)) : Option ((List (S31)) × Bool) := (laws_deeds.f k l0).bind fun t164 => (if t164 = true then ((spec_Twice.f k l0).bind fun t165 => (laws_listed.j0 k l0 t165)) else (laws_listed.j0 k l0 true))
theorem laws_listed.mono_l : ∀ k, (∀ y0 y1, LeO (laws_listed.j0 k y0 y1) (laws_listed.j0 (k + 1) y0 y1)) ∧ (∀ y0 y1, LeO (laws_listed.l0 k y0 y1) (laws_listed.l0 (k + 1) y0 y1))
 | 0 => ⟨fun _ _ r h => by simp [laws_listed.j0] at h, fun _ _ r h => by simp [laws_listed.l0] at h⟩
 | k + 1 => by
  obtain ⟨ih0, ih1⟩ := laws_listed.mono_l k
  refine ⟨?_, ?_⟩
  ·
   intro y0 y1
   unfold laws_listed.j0
   repeat' first
   | (with_reducible exact ih0 _ _)
   | (with_reducible exact ih1 _ _)
   | (with_reducible exact laws_deeds.mono _ _)
   | (with_reducible exact spec_List.mono _ _)
   | (with_reducible exact spec_Twice.mono _ _)
   | (with_reducible exact spec_Valid.mono _ _)
   | (with_reducible exact LeO.refl _)
   | (with_reducible exact LeO.none _)
   | (with_reducible refine LeO.ite ?_ ?_)
   | (with_reducible refine LeO.bind ?_ (fun _ => ?_))
   | exact ih0 _ _
   | exact ih1 _ _
   | exact laws_deeds.mono _ _
   | exact spec_List.mono _ _
   | exact spec_Twice.mono _ _
   | exact spec_Valid.mono _ _
   | exact LeO.none _
   | refine LeO.ite ?_ ?_
   | refine LeO.bind ?_ (fun _ => ?_)
  ·
   intro y0 y1
   unfold laws_listed.l0
   repeat' first
   | (with_reducible exact ih0 _ _)
   | (with_reducible exact ih1 _ _)
   | (with_reducible exact laws_deeds.mono _ _)
   | (with_reducible exact spec_List.mono _ _)
   | (with_reducible exact spec_Twice.mono _ _)
   | (with_reducible exact spec_Valid.mono _ _)
   | (with_reducible exact LeO.refl _)
   | (with_reducible exact LeO.none _)
   | (with_reducible refine LeO.ite ?_ ?_)
   | (with_reducible refine LeO.bind ?_ (fun _ => ?_))
   | exact ih0 _ _
   | exact ih1 _ _
   | exact laws_deeds.mono _ _
   | exact spec_List.mono _ _
   | exact spec_Twice.mono _ _
   | exact spec_Valid.mono _ _
   | exact LeO.none _
   | refine LeO.ite ?_ ?_
   | refine LeO.bind ?_ (fun _ => ?_)
theorem laws_listed.mono : ∀ a0 k, LeO (laws_listed.f k a0) (laws_listed.f (k + 1) a0) := by
 intro a0 k
 obtain ⟨ih0, ih1⟩ := laws_listed.mono_l k
 unfold laws_listed.f
 repeat' first
   | (with_reducible exact ih0 _ _)
   | (with_reducible exact ih1 _ _)
   | (with_reducible exact laws_deeds.mono _ _)
   | (with_reducible exact spec_List.mono _ _)
   | (with_reducible exact spec_Twice.mono _ _)
   | (with_reducible exact spec_Valid.mono _ _)
   | (with_reducible exact LeO.refl _)
   | (with_reducible exact LeO.none _)
   | (with_reducible refine LeO.ite ?_ ?_)
   | (with_reducible refine LeO.bind ?_ (fun _ => ?_))
   | exact ih0 _ _
   | exact ih1 _ _
   | exact laws_deeds.mono _ _
   | exact spec_List.mono _ _
   | exact spec_Twice.mono _ _
   | exact spec_Valid.mono _ _
   | exact LeO.none _
   | refine LeO.ite ?_ ?_
   | refine LeO.bind ?_ (fun _ => ?_)
set_option maxHeartbeats 8000000 in
set_option maxRecDepth 100000 in
theorem laws_listed.calls (k : Nat) (A0 : Option Addr) (c0 : Nat) (l0 : List (S51)) (r1 : List (S31)) (r2 : Bool) (w : World) (hr0 : Kd.C k51 w A0 l0.length l0) (hc0 : l0.length ≤ c0) (h : laws_listed.f k l0 = some (r1, r2)) :
  Calls Tryd.prog 9 #[.slice A0 l0.length c0] w fun e w' => ∃ v0_ : Value, e = .returned (.tuple #[v0_, .bool r2]) ∧ Kd.R k31 31 w' w.heap.size (fun _ => True) v0_ r1 ∧ Below w.heap.size w w' := by
 have HR0 := Aside0.mk hr0
 have HC0 := Aside0.mk hc0
 clear hr0 hc0
 have HB := Aside0.mk (Below.refl w.heap.size w)
 have H : ((laws_deeds.f k l0).bind fun t164 => (if t164 = true then ((spec_Twice.f k l0).bind fun t165 => (laws_listed.j0 k l0 t165)) else (laws_listed.j0 k l0 true))) = some (r1, r2) := h
 clear h
 have HC2 := Aside0.mk H
 clear H
 go_enter Tryd.func9, Tryd.ntmps9
 go_upto_region 1 with (fail)
 go_cut [13] (fun v13 wc => ∃ (kq : Nat) (x13_1 : Bool), v13 = .bool x13_1 ∧ Aside0 (laws_listed.j0 kq l0 x13_1 = some (r1, r2)) ∧ Aside0 (kq ≤ k) ∧ Aside0 (Below w.heap.size w wc))
 case first =>
  have H := HC2.out
  clear HC2
  replace H := Option.bind_eq_some_iff.mp H
  obtain ⟨t164, A30, H⟩ := H
  replace H : (if t164 = true then ((spec_Twice.f k l0).bind fun t165 => (laws_listed.j0 k l0 t165)) else (laws_listed.j0 k l0 true)) = some (r1, r2) := H
  have A3 := Aside0.mk A30
  clear A30
  by_cases c4 : t164 = true
  ·
   subst c4
   have H1 : ((spec_Twice.f k l0).bind fun t165 => (laws_listed.j0 k l0 t165)) = some (r1, r2) := by rw [if_pos rfl] at H; exact H
   clear H
   have H := H1
   clear H1
   replace H := Option.bind_eq_some_iff.mp H
   obtain ⟨t165, A50, H⟩ := H
   replace H : (laws_listed.j0 k l0 t165) = some (r1, r2) := H
   have A5 := Aside0.mk A50
   clear A50
   have H' := Aside0.mk H
   clear H
   go_wp2_with (first | ((with_reducible refine gate_callee (f := 26) rfl ?_); refine goesL_ (some 8) rfl rfl Tryd.func26 (by kernel_rfl) rfl #[.slice A0 l0.length c0] rfl (by (try simp only [List.map_toArray, List.map_cons, List.map_nil]); first | done | rfl | (simp only [List.length_drop, List.length_take]; rfl)) ?_; (with_reducible refine (laws_deeds.calls k _ _ l0 true _ ?side1 ?side2 A3.out).mono ?_); (case side1 => repeat (first | exact (Kd.C_below HR0.out HB.out) | (with_reducible refine Kd.C_alloc ?_ _) | (with_reducible refine Kd.C_drewN ?_ _) | (with_reducible refine Kd.C_drew ?_))); (case side2 => exact HC0.out); rintro e w6 ⟨rfl, hb⟩; refine ⟨_, rfl, ?_⟩; have n0_ := Aside0.mk (below_step (by repeat (first | (with_reducible first | exact HB.out | apply below_alloc | apply pw_below_drewN | apply below_drew1) | exact HB.out)) hb); clear HB; have HB := n0_; clear n0_; (try clear hb); (try clear hb2); (try clear hk); (try clear hi)) | (go_at_call 27; (with_reducible refine (spec_Twice.calls k _ _ l0 t165 _ ?side1 ?side2 A5.out).mono ?_); (case side1 => repeat (first | exact (Kd.C_below HR0.out HB.out) | (with_reducible refine Kd.C_alloc ?_ _) | (with_reducible refine Kd.C_drewN ?_ _) | (with_reducible refine Kd.C_drew ?_))); (case side2 => exact HC0.out); rintro e w7 ⟨rfl, hb⟩; have n0_ := Aside0.mk (below_step (by repeat (first | (with_reducible first | exact HB.out | apply below_alloc | apply pw_below_drewN | apply below_drew1) | exact HB.out)) hb); clear HB; have HB := n0_; clear n0_; (try clear hb); (try clear hb2); (try clear hk); (try clear hi)))
   go_meet
   case rel => exact ⟨_, (t165), (by first | rfl | (simp; done) | (simp [*]; done)), H', ⟨by first | omega | exact Nat.le_refl _⟩, ⟨by repeat (first | (with_reducible first | exact HB.out | apply below_alloc | apply pw_below_drewN | apply below_drew1) | exact HB.out)⟩⟩
  ·
   replace c4 := Bool.eq_false_iff.mpr c4
   subst c4
   have H1 : (laws_listed.j0 k l0 true) = some (r1, r2) := by rw [if_neg (show ¬ (false = true) by decide)] at H; exact H
   clear H
   have H := H1
   clear H1
   have H' := Aside0.mk H
   clear H
   go_wp2_with (first | ((with_reducible refine gate_callee (f := 26) rfl ?_); refine goesL_ (some 8) rfl rfl Tryd.func26 (by kernel_rfl) rfl #[.slice A0 l0.length c0] rfl (by (try simp only [List.map_toArray, List.map_cons, List.map_nil]); first | done | rfl | (simp only [List.length_drop, List.length_take]; rfl)) ?_; (with_reducible refine (laws_deeds.calls k _ _ l0 false _ ?side1 ?side2 A3.out).mono ?_); (case side1 => repeat (first | exact (Kd.C_below HR0.out HB.out) | (with_reducible refine Kd.C_alloc ?_ _) | (with_reducible refine Kd.C_drewN ?_ _) | (with_reducible refine Kd.C_drew ?_))); (case side2 => exact HC0.out); rintro e w8 ⟨rfl, hb⟩; refine ⟨_, rfl, ?_⟩; have n0_ := Aside0.mk (below_step (by repeat (first | (with_reducible first | exact HB.out | apply below_alloc | apply pw_below_drewN | apply below_drew1) | exact HB.out)) hb); clear HB; have HB := n0_; clear n0_; (try clear hb); (try clear hb2); (try clear hk); (try clear hi)))
   go_meet
   case rel => exact ⟨_, (true), (by first | rfl | (simp; done) | (simp [*]; done)), H', ⟨by first | omega | exact Nat.le_refl _⟩, ⟨by repeat (first | (with_reducible first | exact HB.out | apply below_alloc | apply pw_below_drewN | apply below_drew1) | exact HB.out)⟩⟩
 case rest =>
  clear HC2
  try clear c2
  try clear p2
  try clear c4
  obtain ⟨kq, x13_1, rfl, HA, HJ1, HB⟩ := hcut
  cases kq with
  | zero => exact absurd HA.out (by simp [laws_listed.j0])
  | succ kj1 =>
   have H := HA.out
   clear HA
   simp only [laws_listed.j0] at H
   by_cases c9 : x13_1 = true
   ·
    subst c9
    have H1 : (some (([] : List (S31)), false)) = some (r1, r2) := by rw [if_pos rfl] at H; exact H
    clear H
    have H := H1
    clear H1
    simp only [Option.some.injEq, Prod.mk.injEq] at H
    obtain ⟨rfl, rfl⟩ := H
    go_wp2
    go_ret2
    exact ⟨_, by first | rfl | (simp [errW_none, errW_some] <;> rfl) | (simp [*, errW_none, errW_some] <;> rfl), by first | exact Kd.R_nil _ _ _ _ _ | exact Kd.N_nil _ _ _ _ _ | exact Kd.V_nil _ _ _ _ _ | exact Kd.Q_nil _ _ _ _ _ | exact Kd.S_nil _ _ _ _ _, by repeat (first | (with_reducible first | exact HB.out | apply below_alloc | apply pw_below_drewN | apply below_drew1) | exact HB.out)⟩
   ·
    replace c9 := Bool.eq_false_iff.mpr c9
    subst c9
    have H1 : (laws_listed.l0 kj1 l0 0) = some (r1, r2) := by rw [if_neg (show ¬ (false = true) by decide)] at H; exact H
    clear H
    have H := H1
    clear H1
    have H' := Aside0.mk H
    clear H
    go_wp2
    go_loopg [4] kj1 (fun kq v4 w' => ∃ (x4_2 : Int), v4 = .int .i64 x4_2 ∧ Aside0 (laws_listed.l0 kq l0 x4_2 = some (r1, r2)) ∧ Aside0 (kq ≤ kj1) ∧ Aside0 (Below w.heap.size w w'))
    case atStart => exact ⟨(0), (by first | rfl | (simp; done) | (simp [*]; done)), H', ⟨Nat.le_refl _⟩, ⟨by repeat (first | (with_reducible first | exact HB.out | apply below_alloc | apply pw_below_drewN | apply below_drew1) | exact HB.out)⟩⟩
    case round =>
     clear H'
     try clear c2
     try clear p2
     try clear c4
     try clear c9
     try clear p2
     obtain ⟨x4_2, rfl, HA, HK2, HB⟩ := hrel
     cases gk with
     | zero => exact absurd HA.out (by simp [laws_listed.l0])
     | succ k2 =>
      have H := HA.out
      clear HA
      simp only [laws_listed.l0] at H
      by_cases c10 : x4_2 < (l0.length : Int)
      ·
       rw [if_pos c10] at H
       have c10b0 : decide (x4_2 < (l0.length : Int)) = true := decide_eq_true c10
       clear c10
       by_cases c11 : 0 ≤ x4_2
       ·
        rw [if_pos c11] at H
        have c11b0 : decide (0 ≤ x4_2) = true := decide_eq_true c11
        clear c11
        by_cases c12 : ((rd_T51 l0 x4_2).f0) = 0
        ·
         rw [if_pos c12] at H
         have c12b0 : (((rd_T51 l0 x4_2).f0) == 0) = true := beq_iff_eq.mpr c12
         have c12b1 : (((rd_T51 l0 x4_2).f0) != 0) = false := bne_eq_false_iff_eq.mpr c12
         clear c12
         replace H := Option.bind_eq_some_iff.mp H
         obtain ⟨t168, A130, H⟩ := H
         replace H : (if t168 = true then (laws_listed.l0 k2 l0 (wrap64 (x4_2 + 1))) else (some (([] : List (S31)), false))) = some (r1, r2) := H
         have A13 := Aside0.mk A130
         clear A130
         by_cases c14 : t168 = true
         ·
          subst c14
          have H1 : (laws_listed.l0 k2 l0 (wrap64 (x4_2 + 1))) = some (r1, r2) := by rw [if_pos rfl] at H; exact H
          clear H
          have H := H1
          clear H1
          have H' := Aside0.mk H
          clear H
          have p166 : 0 ≤ (x4_2 : Int) := of_decide_eq_true (by first | (with_reducible assumption) | assumption)
          have q166 : x4_2 < (l0.length : Int) := of_decide_eq_true (by first | (with_reducible assumption) | assumption)
          obtain ⟨ad166, e166, hx166_0, hx166_1, hx166_2⟩ := at_T51 HR0.out x4_2 p166 q166
          cases e166
          replace hx166_0 := (HB.out.cell (World.block_lt_of_cell? w _ hx166_0)).trans hx166_0
          replace hx166_1 := (HB.out.cell (World.block_lt_of_cell? w _ hx166_1)).trans hx166_1
          replace hx166_2 := (HB.out.cell (World.block_lt_of_cell? w _ hx166_2)).trans hx166_2
          replace p166 := eq_true p166
          replace q166 := eq_true q166
          have p167 : 0 ≤ (x4_2 : Int) := of_decide_eq_true (by first | (with_reducible assumption) | assumption)
          have q167 : x4_2 < (l0.length : Int) := of_decide_eq_true (by first | (with_reducible assumption) | assumption)
          obtain ⟨ad167, e167, hx167_0, hx167_1, hx167_2⟩ := at_T51 HR0.out x4_2 p167 q167
          obtain rfl : ad166 = ad167 := (by injection e167)
          replace hx167_0 := (HB.out.cell (World.block_lt_of_cell? w _ hx167_0)).trans hx167_0
          replace hx167_1 := (HB.out.cell (World.block_lt_of_cell? w _ hx167_1)).trans hx167_1
          replace hx167_2 := (HB.out.cell (World.block_lt_of_cell? w _ hx167_2)).trans hx167_2
          replace p167 := eq_true p167
          replace q167 := eq_true q167
          go_wp2_with (first | (go_at_call 28; (with_reducible refine (spec_Valid.calls k2 ((rd_T51 l0 x4_2).f1) true _ A13.out).mono ?_); rintro e w15 ⟨rfl, hb⟩; have n0_ := Aside0.mk (below_step (by repeat (first | (with_reducible first | exact HB.out | apply below_alloc | apply pw_below_drewN | apply below_drew1) | exact HB.out)) hb); clear HB; have HB := n0_; clear n0_; (try clear hb); (try clear hb2); (try clear hk); (try clear hi)))
          go_roundg k2
          case measure => have := HJ1.out; have := HK2.out; omega
          case rel => exact ⟨(wrap64 (x4_2 + 1)), (by first | rfl | (simp; done) | (simp [*]; done)), H', ⟨by have := HJ1.out; have := HK2.out; omega⟩, ⟨by repeat (first | (with_reducible first | exact HB.out | apply below_alloc | apply pw_below_drewN | apply below_drew1) | exact HB.out)⟩⟩
         ·
          replace c14 := Bool.eq_false_iff.mpr c14
          subst c14
          have H1 : (some (([] : List (S31)), false)) = some (r1, r2) := by rw [if_neg (show ¬ (false = true) by decide)] at H; exact H
          clear H
          have H := H1
          clear H1
          simp only [Option.some.injEq, Prod.mk.injEq] at H
          obtain ⟨rfl, rfl⟩ := H
          have p166 : 0 ≤ (x4_2 : Int) := of_decide_eq_true (by first | (with_reducible assumption) | assumption)
          have q166 : x4_2 < (l0.length : Int) := of_decide_eq_true (by first | (with_reducible assumption) | assumption)
          obtain ⟨ad166, e166, hx166_0, hx166_1, hx166_2⟩ := at_T51 HR0.out x4_2 p166 q166
          cases e166
          replace hx166_0 := (HB.out.cell (World.block_lt_of_cell? w _ hx166_0)).trans hx166_0
          replace hx166_1 := (HB.out.cell (World.block_lt_of_cell? w _ hx166_1)).trans hx166_1
          replace hx166_2 := (HB.out.cell (World.block_lt_of_cell? w _ hx166_2)).trans hx166_2
          replace p166 := eq_true p166
          replace q166 := eq_true q166
          have p167 : 0 ≤ (x4_2 : Int) := of_decide_eq_true (by first | (with_reducible assumption) | assumption)
          have q167 : x4_2 < (l0.length : Int) := of_decide_eq_true (by first | (with_reducible assumption) | assumption)
          obtain ⟨ad167, e167, hx167_0, hx167_1, hx167_2⟩ := at_T51 HR0.out x4_2 p167 q167
          obtain rfl : ad166 = ad167 := (by injection e167)
          replace hx167_0 := (HB.out.cell (World.block_lt_of_cell? w _ hx167_0)).trans hx167_0
          replace hx167_1 := (HB.out.cell (World.block_lt_of_cell? w _ hx167_1)).trans hx167_1
          replace hx167_2 := (HB.out.cell (World.block_lt_of_cell? w _ hx167_2)).trans hx167_2
          replace p167 := eq_true p167
          replace q167 := eq_true q167
          go_wp2_with (first | (go_at_call 28; (with_reducible refine (spec_Valid.calls k2 ((rd_T51 l0 x4_2).f1) false _ A13.out).mono ?_); rintro e w16 ⟨rfl, hb⟩; have n0_ := Aside0.mk (below_step (by repeat (first | (with_reducible first | exact HB.out | apply below_alloc | apply pw_below_drewN | apply below_drew1) | exact HB.out)) hb); clear HB; have HB := n0_; clear n0_; (try clear hb); (try clear hb2); (try clear hk); (try clear hi)))
          go_ret2
          exact ⟨_, by first | rfl | (simp [errW_none, errW_some] <;> rfl) | (simp [*, errW_none, errW_some] <;> rfl), by first | exact Kd.R_nil _ _ _ _ _ | exact Kd.N_nil _ _ _ _ _ | exact Kd.V_nil _ _ _ _ _ | exact Kd.Q_nil _ _ _ _ _ | exact Kd.S_nil _ _ _ _ _, by repeat (first | (with_reducible first | exact HB.out | apply below_alloc | apply pw_below_drewN | apply below_drew1) | exact HB.out)⟩
        ·
         rw [if_neg c12] at H
         have c12b0 : (((rd_T51 l0 x4_2).f0) == 0) = false := beq_eq_false_iff_ne.mpr c12
         have c12b1 : (((rd_T51 l0 x4_2).f0) != 0) = true := bne_iff_ne.mpr c12
         have H' := Aside0.mk H
         clear H
         have p166 : 0 ≤ (x4_2 : Int) := of_decide_eq_true (by first | (with_reducible assumption) | assumption)
         have q166 : x4_2 < (l0.length : Int) := of_decide_eq_true (by first | (with_reducible assumption) | assumption)
         obtain ⟨ad166, e166, hx166_0, hx166_1, hx166_2⟩ := at_T51 HR0.out x4_2 p166 q166
         cases e166
         replace hx166_0 := (HB.out.cell (World.block_lt_of_cell? w _ hx166_0)).trans hx166_0
         replace hx166_1 := (HB.out.cell (World.block_lt_of_cell? w _ hx166_1)).trans hx166_1
         replace hx166_2 := (HB.out.cell (World.block_lt_of_cell? w _ hx166_2)).trans hx166_2
         replace p166 := eq_true p166
         replace q166 := eq_true q166
         go_wp2
         go_roundg k2
         case measure => have := HJ1.out; have := HK2.out; omega
         case rel => exact ⟨(wrap64 (x4_2 + 1)), (by first | rfl | (simp; done) | (simp [*]; done)), H', ⟨by have := HJ1.out; have := HK2.out; omega⟩, ⟨by repeat (first | (with_reducible first | exact HB.out | apply below_alloc | apply pw_below_drewN | apply below_drew1) | exact HB.out)⟩⟩
       ·
        rw [if_neg c11] at H
        exact absurd H (by simp)
      ·
       rw [if_neg c10] at H
       have c10b0 : decide (x4_2 < (l0.length : Int)) = false := decide_eq_false c10
       clear c10
       replace H := Option.bind_eq_some_iff.mp H
       obtain ⟨⟨t169, t170⟩, A170, H⟩ := H
       replace H : (some (t169, true)) = some (r1, r2) := H
       have A17 := Aside0.mk A170
       clear A170
       simp only [Option.some.injEq, Prod.mk.injEq] at H
       obtain ⟨rfl, rfl⟩ := H
       go_wp2_with (first | ((with_reducible refine gate_callee (f := 29) rfl ?_); refine goesL_ (some 37) rfl rfl Tryd.func29 (by kernel_rfl) rfl #[.slice A0 l0.length c0] rfl (by (try simp only [List.map_toArray, List.map_cons, List.map_nil]); first | done | rfl | (simp only [List.length_drop, List.length_take]; rfl)) ?_; (with_reducible refine (spec_List.calls k2 _ _ l0 t169 t170 _ ?side1 ?side2 A17.out).mono ?_); (case side1 => repeat (first | exact (Kd.C_below HR0.out HB.out) | (with_reducible refine Kd.C_alloc ?_ _) | (with_reducible refine Kd.C_drewN ?_ _) | (with_reducible refine Kd.C_drew ?_))); (case side2 => exact HC0.out); rintro e w18 ⟨v171, v173, rfl, ho0, ho1, hb⟩; refine ⟨_, rfl, ?_⟩; have n0_ := Aside0.mk (Kd.R_lower ho0 (below_size (by repeat (first | (with_reducible first | exact HB.out | apply below_alloc | apply pw_below_drewN | apply below_drew1) | exact HB.out)))); have n1_ := Aside0.mk (Kd.R_lower ho1 (below_size (by repeat (first | (with_reducible first | exact HB.out | apply below_alloc | apply pw_below_drewN | apply below_drew1) | exact HB.out)))); have n2_ := Aside0.mk (below_step (by repeat (first | (with_reducible first | exact HB.out | apply below_alloc | apply pw_below_drewN | apply below_drew1) | exact HB.out)) hb); clear HB; have HO172 := n0_; have HO174 := n1_; have HB := n2_; clear n0_ n1_ n2_; (try clear hb); (try clear hb2); (try clear hk); (try clear hi); (try clear ho0); (try clear ho1)))
       go_ret2
       exact ⟨_, by first | rfl | (simp [errW_none, errW_some] <;> rfl) | (simp [*, errW_none, errW_some] <;> rfl), by (with_reducible repeat (first | apply Kd.R_alloc | apply Kd.R_drewN | apply Kd.R_drew)); exact HO172.out, by repeat (first | (with_reducible first | exact HB.out | apply below_alloc | apply pw_below_drewN | apply below_drew1) | exact HB.out)⟩

/-! ### laws_valid: function 30 -/
def laws_valid.f (k : Nat) (a0 : ByteArray) : Option (Bool) := (laws_clean.f k a0).bind fun t175 => (if t175 = true then ((spec_Valid.f k a0).bind fun t176 => (if t176 = true then ((laws_tame.f k a0).bind fun t177 => (some t177)) else (some false))) else (some false))
theorem laws_valid.mono : ∀ a0 k, LeO (laws_valid.f k a0) (laws_valid.f (k + 1) a0) := by
 intro a0 k
 unfold laws_valid.f
 repeat' first
   | (with_reducible exact laws_clean.mono _ _)
   | (with_reducible exact laws_tame.mono _ _)
   | (with_reducible exact spec_Valid.mono _ _)
   | (with_reducible exact LeO.refl _)
   | (with_reducible exact LeO.none _)
   | (with_reducible refine LeO.ite ?_ ?_)
   | (with_reducible refine LeO.bind ?_ (fun _ => ?_))
   | exact laws_clean.mono _ _
   | exact laws_tame.mono _ _
   | exact spec_Valid.mono _ _
   | exact LeO.none _
   | refine LeO.ite ?_ ?_
   | refine LeO.bind ?_ (fun _ => ?_)
set_option maxHeartbeats 8000000 in
set_option maxRecDepth 100000 in
theorem laws_valid.calls (k : Nat) (a0 : ByteArray) (r : Bool) (w : World) (h : laws_valid.f k a0 = some r) :
  Calls Tryd.prog 30 #[.string a0] w fun e w' => e = .returned (.bool r) ∧ Below w.heap.size w w' := by
 have HB := Aside0.mk (Below.refl w.heap.size w)
 have H : ((laws_clean.f k a0).bind fun t175 => (if t175 = true then ((spec_Valid.f k a0).bind fun t176 => (if t176 = true then ((laws_tame.f k a0).bind fun t177 => (some t177)) else (some false))) else (some false))) = some r := h
 clear h
 replace H := Option.bind_eq_some_iff.mp H
 obtain ⟨t175, A20, H⟩ := H
 replace H : (if t175 = true then ((spec_Valid.f k a0).bind fun t176 => (if t176 = true then ((laws_tame.f k a0).bind fun t177 => (some t177)) else (some false))) else (some false)) = some r := H
 have A2 := Aside0.mk A20
 clear A20
 by_cases c3 : t175 = true
 ·
  subst c3
  have H1 : ((spec_Valid.f k a0).bind fun t176 => (if t176 = true then ((laws_tame.f k a0).bind fun t177 => (some t177)) else (some false))) = some r := by rw [if_pos rfl] at H; exact H
  clear H
  have H := H1
  clear H1
  replace H := Option.bind_eq_some_iff.mp H
  obtain ⟨t176, A40, H⟩ := H
  replace H : (if t176 = true then ((laws_tame.f k a0).bind fun t177 => (some t177)) else (some false)) = some r := H
  have A4 := Aside0.mk A40
  clear A40
  by_cases c5 : t176 = true
  ·
   subst c5
   have H1 : ((laws_tame.f k a0).bind fun t177 => (some t177)) = some r := by rw [if_pos rfl] at H; exact H
   clear H
   have H := H1
   clear H1
   replace H := Option.bind_eq_some_iff.mp H
   obtain ⟨t177, A60, H⟩ := H
   replace H : (some t177) = some r := H
   have A6 := Aside0.mk A60
   clear A60
   obtain rfl := Option.some.inj H
   go_enter Tryd.func30, Tryd.ntmps30
   go_wp2_with (first | ((with_reducible refine gate_callee (f := 42) rfl ?_); refine goesL_ (some 4) rfl rfl Tryd.func42 (by kernel_rfl) rfl #[.string a0] rfl (by (try simp only [List.map_toArray, List.map_cons, List.map_nil]); first | done | rfl | (simp only [List.length_drop, List.length_take]; rfl)) ?_; (with_reducible refine (laws_clean.calls k a0 true _ A2.out).mono ?_); rintro e w' ⟨rfl, ⟨nd, rfl⟩⟩; refine ⟨_, rfl, ?_⟩) | (go_at_call 28; (with_reducible refine (spec_Valid.calls k a0 true _ A4.out).mono ?_); rintro e w7 ⟨rfl, hb⟩; have n0_ := Aside0.mk (below_step (by repeat (first | (with_reducible first | exact HB.out | apply below_alloc | apply pw_below_drewN | apply below_drew1) | exact HB.out)) hb); clear HB; have HB := n0_; clear n0_; (try clear hb); (try clear hb2); (try clear hk); (try clear hi)) | (go_at_call 43; (with_reducible refine (laws_tame.calls k a0 t177 _ A6.out).mono ?_); rintro e w8 ⟨rfl, hb⟩; have n0_ := Aside0.mk (below_step (by repeat (first | (with_reducible first | exact HB.out | apply below_alloc | apply pw_below_drewN | apply below_drew1) | exact HB.out)) hb); clear HB; have HB := n0_; clear n0_; (try clear hb); (try clear hb2); (try clear hk); (try clear hi)))
   go_ret
   exact ⟨by first | rfl | (simp [errW_none, errW_some] <;> rfl) | (simp [*, errW_none, errW_some] <;> rfl) | (simp [errW_none, errW_some]; generalize ByteArray.toList _ = l_; cases l_ <;> rfl), by repeat (first | (with_reducible first | exact HB.out | apply below_alloc | apply pw_below_drewN | apply below_drew1) | exact HB.out)⟩
  ·
   replace c5 := Bool.eq_false_iff.mpr c5
   subst c5
   have H1 : (some false) = some r := by rw [if_neg (show ¬ (false = true) by decide)] at H; exact H
   clear H
   have H := H1
   clear H1
   obtain rfl := Option.some.inj H
   go_enter Tryd.func30, Tryd.ntmps30
   go_wp2_with (first | ((with_reducible refine gate_callee (f := 42) rfl ?_); refine goesL_ (some 4) rfl rfl Tryd.func42 (by kernel_rfl) rfl #[.string a0] rfl (by (try simp only [List.map_toArray, List.map_cons, List.map_nil]); first | done | rfl | (simp only [List.length_drop, List.length_take]; rfl)) ?_; (with_reducible refine (laws_clean.calls k a0 true _ A2.out).mono ?_); rintro e w' ⟨rfl, ⟨nd, rfl⟩⟩; refine ⟨_, rfl, ?_⟩) | (go_at_call 28; (with_reducible refine (spec_Valid.calls k a0 false _ A4.out).mono ?_); rintro e w9 ⟨rfl, hb⟩; have n0_ := Aside0.mk (below_step (by repeat (first | (with_reducible first | exact HB.out | apply below_alloc | apply pw_below_drewN | apply below_drew1) | exact HB.out)) hb); clear HB; have HB := n0_; clear n0_; (try clear hb); (try clear hb2); (try clear hk); (try clear hi)))
   go_ret
   exact ⟨by first | rfl | (simp [errW_none, errW_some] <;> rfl) | (simp [*, errW_none, errW_some] <;> rfl) | (simp [errW_none, errW_some]; generalize ByteArray.toList _ = l_; cases l_ <;> rfl), by repeat (first | (with_reducible first | exact HB.out | apply below_alloc | apply pw_below_drewN | apply below_drew1) | exact HB.out)⟩
 ·
  replace c3 := Bool.eq_false_iff.mpr c3
  subst c3
  have H1 : (some false) = some r := by rw [if_neg (show ¬ (false = true) by decide)] at H; exact H
  clear H
  have H := H1
  clear H1
  obtain rfl := Option.some.inj H
  go_enter Tryd.func30, Tryd.ntmps30
  go_wp2_with (first | ((with_reducible refine gate_callee (f := 42) rfl ?_); refine goesL_ (some 4) rfl rfl Tryd.func42 (by kernel_rfl) rfl #[.string a0] rfl (by (try simp only [List.map_toArray, List.map_cons, List.map_nil]); first | done | rfl | (simp only [List.length_drop, List.length_take]; rfl)) ?_; (with_reducible refine (laws_clean.calls k a0 false _ A2.out).mono ?_); rintro e w' ⟨rfl, ⟨nd, rfl⟩⟩; refine ⟨_, rfl, ?_⟩))
  go_ret
  exact ⟨by first | rfl | (simp [errW_none, errW_some] <;> rfl) | (simp [*, errW_none, errW_some] <;> rfl) | (simp [errW_none, errW_some]; generalize ByteArray.toList _ = l_; cases l_ <;> rfl), by repeat (first | (with_reducible first | exact HB.out | apply below_alloc | apply pw_below_drewN | apply below_drew1) | exact HB.out)⟩

end Go.Proofs.YtcnbnljlopopkaaDoor.PFnListMatch

-- thin
