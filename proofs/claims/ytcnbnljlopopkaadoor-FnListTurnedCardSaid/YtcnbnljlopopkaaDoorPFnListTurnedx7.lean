-- Written by hprint.py (this session's program, over the kit's printing program, with this session's own contracts in it). Not trusted: Lean checks it.
import Derived.Test.YtcnbnljlopopkaaDoorPFnListTurnedx0
import Derived.Test.YtcnbnljlopopkaaDoorPFnListTurnedx2
import Derived.Test.YtcnbnljlopopkaaDoorPFnListTurnedx5
import Derived.Test.YtcnbnljlopopkaaDoorPFnListTurnedx6
namespace Go.Proofs.YtcnbnljlopopkaaDoor.PFnListTurned
open Go.RowKit Go.Proofs.YtcnbnljlopopkaaDoorW.PrintWords Go.Proofs.YtcnbnljlopopkaaDoorW.PrintLast Go.Proofs.YtcnbnljlopopkaaDoorW.PrintMore
attribute [local go_sem] max2_int min2_int max_two min_two max_three min_three max_four min_four   -- for this text's walks alone
set_option linter.unusedVariables false
set_option linter.unusedSimpArgs false

/-! ### spec_Twice: function 27 -/
def spec_Twice.l0 : Nat → List (S51) → Int → Option (Bool)
 | 0, _, _ => none
 | k + 1, x0, x3 => if x3 < (x0.length : Int) then (if 0 ≤ x3 then (if x3 ≤ (x0.length : Int) then ((spec_List.f k (x0.take (x3 : Int).toNat)).bind fun bt178 => (if ((rd_T51 x0 x3).f0) = 0 then ((spec_place.f k bt178.1 ((rd_T51 x0 x3).f1) ((rd_T51 x0 x3).f2)).bind fun t187 => (if t187 ≥ 0 then (some true) else (spec_Twice.l0 k x0 (wrap64 (x3 + 1))))) else (spec_Twice.l0 k x0 (wrap64 (x3 + 1))))) else (none)) else (none)) else (some false)
def spec_Twice.f (k : Nat) (l0 : List (S51)) : Option (Bool) := spec_Twice.l0 k l0 0
theorem spec_Twice.mono_l : ∀ k, (∀ y0 y1, LeO (spec_Twice.l0 k y0 y1) (spec_Twice.l0 (k + 1) y0 y1))
 | 0 => fun _ _ r h => by simp [spec_Twice.l0] at h
 | k + 1 => by
  have ih0 := spec_Twice.mono_l k
  ·
   intro y0 y1
   unfold spec_Twice.l0
   repeat' first
   | (with_reducible exact ih0 _ _)
   | (with_reducible exact spec_List.mono _ _)
   | (with_reducible exact spec_place.mono _ _ _ _)
   | (with_reducible exact LeO.refl _)
   | (with_reducible exact LeO.none _)
   | (with_reducible refine LeO.ite ?_ ?_)
   | (with_reducible refine LeO.bind ?_ (fun _ => ?_))
   | exact ih0 _ _
   | exact spec_List.mono _ _
   | exact spec_place.mono _ _ _ _
   | exact LeO.none _
   | refine LeO.ite ?_ ?_
   | refine LeO.bind ?_ (fun _ => ?_)
theorem spec_Twice.mono : ∀ a0 k, LeO (spec_Twice.f k a0) (spec_Twice.f (k + 1) a0) := by
 intro a0 k
 have ih0 := spec_Twice.mono_l k
 unfold spec_Twice.f
 repeat' first
   | (with_reducible exact ih0 _ _)
   | (with_reducible exact spec_List.mono _ _)
   | (with_reducible exact spec_place.mono _ _ _ _)
   | (with_reducible exact LeO.refl _)
   | (with_reducible exact LeO.none _)
   | (with_reducible refine LeO.ite ?_ ?_)
   | (with_reducible refine LeO.bind ?_ (fun _ => ?_))
   | exact ih0 _ _
   | exact spec_List.mono _ _
   | exact spec_place.mono _ _ _ _
   | exact LeO.none _
   | refine LeO.ite ?_ ?_
   | refine LeO.bind ?_ (fun _ => ?_)
set_option maxHeartbeats 8000000 in
set_option maxRecDepth 100000 in
theorem spec_Twice.calls (k : Nat) (A0 : Option Addr) (c0 : Nat) (l0 : List (S51)) (r : Bool) (w : World) (hr0 : Kd.C k51 w A0 l0.length l0) (hc0 : l0.length ≤ c0) (h : spec_Twice.f k l0 = some r) :
  Calls Tryd.prog 27 #[.slice A0 l0.length c0] w fun e w' => e = .returned (.bool r) ∧ Below w.heap.size w w' := by
 have HR0 := Aside0.mk hr0
 have HC0 := Aside0.mk hc0
 clear hr0 hc0
 have HB := Aside0.mk (Below.refl w.heap.size w)
 have H : (spec_Twice.l0 k l0 0) = some r := h
 clear h
 have H' := Aside0.mk H
 clear H
 go_enter Tryd.func27, Tryd.ntmps27
 go_wp2
 repeat (go_quiet (fail); try go_wp2)
 go_loopg [3] k (fun kq v3 w' => ∃ (x3_1 : Int), v3 = .int .i64 x3_1 ∧ Aside0 (spec_Twice.l0 kq l0 x3_1 = some r) ∧ Aside0 (kq ≤ k) ∧ Aside0 (Below w.heap.size w w'))
 case atStart => exact ⟨(0), (by first | rfl | (simp; done) | (simp [*]; done)), H', ⟨Nat.le_refl _⟩, ⟨by repeat (first | (with_reducible first | exact HB.out | apply below_alloc | apply pw_below_drewN | apply below_drew1) | exact HB.out)⟩⟩
 case round =>
  clear H'
  obtain ⟨x3_1, rfl, HA, HK1, HB⟩ := hrel
  cases gk with
  | zero => exact absurd HA.out (by simp [spec_Twice.l0])
  | succ k1 =>
   have H := HA.out
   clear HA
   simp only [spec_Twice.l0] at H
   by_cases c2 : x3_1 < (l0.length : Int)
   ·
    rw [if_pos c2] at H
    have c2b0 : decide (x3_1 < (l0.length : Int)) = true := decide_eq_true c2
    clear c2
    by_cases c3 : 0 ≤ x3_1
    ·
     rw [if_pos c3] at H
     have c3b0 := eq_true c3
     have c3b1 : decide (0 ≤ x3_1) = true := decide_eq_true c3
     clear c3
     by_cases c4 : x3_1 ≤ (l0.length : Int)
     ·
      rw [if_pos c4] at H
      have c4b0 := eq_true c4
      have c4b1 : decide (x3_1 ≤ (l0.length : Int)) = true := decide_eq_true c4
      clear c4
      obtain ⟨y174, hy174⟩ : ∃ y_ : List (S51), y_ = (l0.take (x3_1 : Int).toNat) := ⟨_, rfl⟩
      replace H : ((spec_List.f k1 y174).bind fun bt178 => (if ((rd_T51 l0 x3_1).f0) = 0 then ((spec_place.f k1 bt178.1 ((rd_T51 l0 x3_1).f1) ((rd_T51 l0 x3_1).f2)).bind fun t187 => (if t187 ≥ 0 then (some true) else (spec_Twice.l0 k1 l0 (wrap64 (x3_1 + 1))))) else (spec_Twice.l0 k1 l0 (wrap64 (x3_1 + 1))))) = some r := by first | (rw [hy174]; with_reducible exact H) | (have H2_ := (Option.bind_some _ _).symm.trans H; rw [hy174]; with_reducible exact H2_) | (have H2_ := (Option.bind_some _ _).symm.trans H; with_reducible exact H2_) | with_reducible exact H | (rw [hy174]; exact H) | exact H
      have Ny174 := Aside0.mk hy174
      clear hy174
      replace H := Option.bind_eq_some_iff.mp H
      obtain ⟨⟨t178, t179⟩, A50, H⟩ := H
      replace H : (if ((rd_T51 l0 x3_1).f0) = 0 then ((spec_place.f k1 t178 ((rd_T51 l0 x3_1).f1) ((rd_T51 l0 x3_1).f2)).bind fun t187 => (if t187 ≥ 0 then (some true) else (spec_Twice.l0 k1 l0 (wrap64 (x3_1 + 1))))) else (spec_Twice.l0 k1 l0 (wrap64 (x3_1 + 1)))) = some r := H
      have A5 := Aside0.mk A50
      clear A50
      by_cases c6 : ((rd_T51 l0 x3_1).f0) = 0
      ·
       rw [if_pos c6] at H
       have c6b0 : (((rd_T51 l0 x3_1).f0) == 0) = true := beq_iff_eq.mpr c6
       have c6b1 : (((rd_T51 l0 x3_1).f0) != 0) = false := bne_eq_false_iff_eq.mpr c6
       clear c6
       replace H := Option.bind_eq_some_iff.mp H
       obtain ⟨t187, A70, H⟩ := H
       replace H : (if t187 ≥ 0 then (some true) else (spec_Twice.l0 k1 l0 (wrap64 (x3_1 + 1)))) = some r := H
       have A7 := Aside0.mk A70
       clear A70
       by_cases c8 : t187 ≥ 0
       ·
        rw [if_pos c8] at H
        have c8b0 : decide (0 ≤ t187) = true := decide_eq_true c8
        clear c8
        obtain rfl := Option.some.inj H
        have q9 : (x3_1 : Int) ≤ ((l0.length : Int) : Int) := of_decide_eq_true (by first | (with_reducible assumption) | assumption)
        obtain ⟨i09, hi09, _, hsz9, _⟩ := info_parts info51
        have hroom9 : l0.length ≤ c0 := HC0.out
        have hC9 : Kd.C k51 _ A0 l0.length l0 := HR0.out
        have hcut9 := cut_to (P := Tryd.prog) 22 51 .i64 Tryd.underlying22 hi09 A0 l0.length c0 x3_1 (of_decide_eq_true (by first | (with_reducible assumption) | assumption)) q9 hroom9
        have hr9 := Kd.C_take (m := (x3_1 : Int).toNat) hC9 (by omega)
        have hy9 : y174.length = (x3_1 : Int).toNat := (by rw [Ny174.out, List.length_take]; omega)
        rw [← Ny174.out] at hr9
        rw [← hy9] at hcut9
        have HR177 := Aside0.mk hr9
        have HC177 := Aside0.mk (show y174.length ≤ c0 from by omega)
        clear hr9 hC9 hroom9 hi09 hsz9
        have KY9 := Aside0.mk hy9
        clear hy9
        replace q9 := eq_true q9
        go_wp2_with (first | (go_at_call 29; (with_reducible refine (spec_List.calls k1 _ _ y174 t178 t179 _ ?side1 ?side2 A5.out).mono ?_); (case side1 => repeat (first | exact (Kd.C_below HR177.out HB.out) | (with_reducible refine Kd.C_alloc ?_ _) | (with_reducible refine Kd.C_drewN ?_ _) | (with_reducible refine Kd.C_drew ?_))); (case side2 => exact HC177.out); rintro e w10 ⟨v180, v182, rfl, ho0, ho1, hb⟩; have n0_ := Aside0.mk (Kd.R_lower ho0 (below_size (by repeat (first | (with_reducible first | exact HB.out | apply below_alloc | apply pw_below_drewN | apply below_drew1) | exact HB.out)))); have n1_ := Aside0.mk (Kd.R_lower ho1 (below_size (by repeat (first | (with_reducible first | exact HB.out | apply below_alloc | apply pw_below_drewN | apply below_drew1) | exact HB.out)))); have n2_ := Aside0.mk (below_step (by repeat (first | (with_reducible first | exact HB.out | apply below_alloc | apply pw_below_drewN | apply below_drew1) | exact HB.out)) hb); clear HB; have HO181 := n0_; have HO183 := n1_; have HB := n2_; clear n0_ n1_ n2_; (try clear hb); (try clear hb2); (try clear hk); (try clear hi); (try clear ho0); (try clear ho1); have p184 : 0 ≤ (x3_1 : Int) := of_decide_eq_true (by first | (with_reducible assumption) | assumption); have q184 : x3_1 < (l0.length : Int) := of_decide_eq_true (by first | (with_reducible assumption) | assumption); obtain ⟨ad184, e184, hx184_0, hx184_1, hx184_2⟩ := at_T51 HR0.out x3_1 p184 q184; cases e184; replace hx184_0 := (HB.out.cell (World.block_lt_of_cell? w _ hx184_0)).trans hx184_0; replace hx184_1 := (HB.out.cell (World.block_lt_of_cell? w _ hx184_1)).trans hx184_1; replace hx184_2 := (HB.out.cell (World.block_lt_of_cell? w _ hx184_2)).trans hx184_2; replace p184 := eq_true p184; replace q184 := eq_true q184; have p185 : 0 ≤ (x3_1 : Int) := of_decide_eq_true (by first | (with_reducible assumption) | assumption); have q185 : x3_1 < (l0.length : Int) := of_decide_eq_true (by first | (with_reducible assumption) | assumption); obtain ⟨ad185, e185, hx185_0, hx185_1, hx185_2⟩ := at_T51 HR0.out x3_1 p185 q185; obtain rfl : ad184 = ad185 := (by injection e185); replace hx185_0 := (HB.out.cell (World.block_lt_of_cell? w _ hx185_0)).trans hx185_0; replace hx185_1 := (HB.out.cell (World.block_lt_of_cell? w _ hx185_1)).trans hx185_1; replace hx185_2 := (HB.out.cell (World.block_lt_of_cell? w _ hx185_2)).trans hx185_2; replace p185 := eq_true p185; replace q185 := eq_true q185; have p186 : 0 ≤ (x3_1 : Int) := of_decide_eq_true (by first | (with_reducible assumption) | assumption); have q186 : x3_1 < (l0.length : Int) := of_decide_eq_true (by first | (with_reducible assumption) | assumption); obtain ⟨ad186, e186, hx186_0, hx186_1, hx186_2⟩ := at_T51 HR0.out x3_1 p186 q186; obtain rfl : ad184 = ad186 := (by injection e186); replace hx186_0 := (HB.out.cell (World.block_lt_of_cell? w _ hx186_0)).trans hx186_0; replace hx186_1 := (HB.out.cell (World.block_lt_of_cell? w _ hx186_1)).trans hx186_1; replace hx186_2 := (HB.out.cell (World.block_lt_of_cell? w _ hx186_2)).trans hx186_2; replace p186 := eq_true p186; replace q186 := eq_true q186; obtain ⟨Ao11, co11, eo11⟩ := Kd.R_slice HO181.out; subst eo11) | (go_at_call 44; (with_reducible refine (spec_place.calls k1 _ _ t178 ((rd_T51 l0 x3_1).f1) ((rd_T51 l0 x3_1).f2) t187 _ ?side1 ?side2 A7.out).mono ?_); (case side1 => repeat (first | exact (Kd.R_reads' HO181.out).2.2 | (with_reducible refine Kd.C_alloc ?_ _) | (with_reducible refine Kd.C_drewN ?_ _) | (with_reducible refine Kd.C_drew ?_))); (case side2 => exact (Kd.R_reads' HO181.out).2.1); rintro e w' ⟨rfl, ⟨nd, rfl⟩⟩; (try first | exact ⟨rfl, _, World.drewN_drewN _ _ _⟩ | exact ⟨rfl, _, Eq.trans (World.drewN_drewN _ _ _) (congrArg (World.drewN _) (Nat.add_assoc _ _ _))⟩)))
        repeat (go_quiet (first | (go_at_call 29; (with_reducible refine (spec_List.calls k1 _ _ y174 t178 t179 _ ?side1 ?side2 A5.out).mono ?_); (case side1 => repeat (first | exact (Kd.C_below HR177.out HB.out) | (with_reducible refine Kd.C_alloc ?_ _) | (with_reducible refine Kd.C_drewN ?_ _) | (with_reducible refine Kd.C_drew ?_))); (case side2 => exact HC177.out); rintro e w10 ⟨v180, v182, rfl, ho0, ho1, hb⟩; have n0_ := Aside0.mk (Kd.R_lower ho0 (below_size (by repeat (first | (with_reducible first | exact HB.out | apply below_alloc | apply pw_below_drewN | apply below_drew1) | exact HB.out)))); have n1_ := Aside0.mk (Kd.R_lower ho1 (below_size (by repeat (first | (with_reducible first | exact HB.out | apply below_alloc | apply pw_below_drewN | apply below_drew1) | exact HB.out)))); have n2_ := Aside0.mk (below_step (by repeat (first | (with_reducible first | exact HB.out | apply below_alloc | apply pw_below_drewN | apply below_drew1) | exact HB.out)) hb); clear HB; have HO181 := n0_; have HO183 := n1_; have HB := n2_; clear n0_ n1_ n2_; (try clear hb); (try clear hb2); (try clear hk); (try clear hi); (try clear ho0); (try clear ho1); have p184 : 0 ≤ (x3_1 : Int) := of_decide_eq_true (by first | (with_reducible assumption) | assumption); have q184 : x3_1 < (l0.length : Int) := of_decide_eq_true (by first | (with_reducible assumption) | assumption); obtain ⟨ad184, e184, hx184_0, hx184_1, hx184_2⟩ := at_T51 HR0.out x3_1 p184 q184; cases e184; replace hx184_0 := (HB.out.cell (World.block_lt_of_cell? w _ hx184_0)).trans hx184_0; replace hx184_1 := (HB.out.cell (World.block_lt_of_cell? w _ hx184_1)).trans hx184_1; replace hx184_2 := (HB.out.cell (World.block_lt_of_cell? w _ hx184_2)).trans hx184_2; replace p184 := eq_true p184; replace q184 := eq_true q184; have p185 : 0 ≤ (x3_1 : Int) := of_decide_eq_true (by first | (with_reducible assumption) | assumption); have q185 : x3_1 < (l0.length : Int) := of_decide_eq_true (by first | (with_reducible assumption) | assumption); obtain ⟨ad185, e185, hx185_0, hx185_1, hx185_2⟩ := at_T51 HR0.out x3_1 p185 q185; obtain rfl : ad184 = ad185 := (by injection e185); replace hx185_0 := (HB.out.cell (World.block_lt_of_cell? w _ hx185_0)).trans hx185_0; replace hx185_1 := (HB.out.cell (World.block_lt_of_cell? w _ hx185_1)).trans hx185_1; replace hx185_2 := (HB.out.cell (World.block_lt_of_cell? w _ hx185_2)).trans hx185_2; replace p185 := eq_true p185; replace q185 := eq_true q185; have p186 : 0 ≤ (x3_1 : Int) := of_decide_eq_true (by first | (with_reducible assumption) | assumption); have q186 : x3_1 < (l0.length : Int) := of_decide_eq_true (by first | (with_reducible assumption) | assumption); obtain ⟨ad186, e186, hx186_0, hx186_1, hx186_2⟩ := at_T51 HR0.out x3_1 p186 q186; obtain rfl : ad184 = ad186 := (by injection e186); replace hx186_0 := (HB.out.cell (World.block_lt_of_cell? w _ hx186_0)).trans hx186_0; replace hx186_1 := (HB.out.cell (World.block_lt_of_cell? w _ hx186_1)).trans hx186_1; replace hx186_2 := (HB.out.cell (World.block_lt_of_cell? w _ hx186_2)).trans hx186_2; replace p186 := eq_true p186; replace q186 := eq_true q186; obtain ⟨Ao11, co11, eo11⟩ := Kd.R_slice HO181.out; subst eo11) | (go_at_call 44; (with_reducible refine (spec_place.calls k1 _ _ t178 ((rd_T51 l0 x3_1).f1) ((rd_T51 l0 x3_1).f2) t187 _ ?side1 ?side2 A7.out).mono ?_); (case side1 => repeat (first | exact (Kd.R_reads' HO181.out).2.2 | (with_reducible refine Kd.C_alloc ?_ _) | (with_reducible refine Kd.C_drewN ?_ _) | (with_reducible refine Kd.C_drew ?_))); (case side2 => exact (Kd.R_reads' HO181.out).2.1); rintro e w' ⟨rfl, ⟨nd, rfl⟩⟩; (try first | exact ⟨rfl, _, World.drewN_drewN _ _ _⟩ | exact ⟨rfl, _, Eq.trans (World.drewN_drewN _ _ _) (congrArg (World.drewN _) (Nat.add_assoc _ _ _))⟩))); try go_wp2_with (first | (go_at_call 29; (with_reducible refine (spec_List.calls k1 _ _ y174 t178 t179 _ ?side1 ?side2 A5.out).mono ?_); (case side1 => repeat (first | exact (Kd.C_below HR177.out HB.out) | (with_reducible refine Kd.C_alloc ?_ _) | (with_reducible refine Kd.C_drewN ?_ _) | (with_reducible refine Kd.C_drew ?_))); (case side2 => exact HC177.out); rintro e w10 ⟨v180, v182, rfl, ho0, ho1, hb⟩; have n0_ := Aside0.mk (Kd.R_lower ho0 (below_size (by repeat (first | (with_reducible first | exact HB.out | apply below_alloc | apply pw_below_drewN | apply below_drew1) | exact HB.out)))); have n1_ := Aside0.mk (Kd.R_lower ho1 (below_size (by repeat (first | (with_reducible first | exact HB.out | apply below_alloc | apply pw_below_drewN | apply below_drew1) | exact HB.out)))); have n2_ := Aside0.mk (below_step (by repeat (first | (with_reducible first | exact HB.out | apply below_alloc | apply pw_below_drewN | apply below_drew1) | exact HB.out)) hb); clear HB; have HO181 := n0_; have HO183 := n1_; have HB := n2_; clear n0_ n1_ n2_; (try clear hb); (try clear hb2); (try clear hk); (try clear hi); (try clear ho0); (try clear ho1); have p184 : 0 ≤ (x3_1 : Int) := of_decide_eq_true (by first | (with_reducible assumption) | assumption); have q184 : x3_1 < (l0.length : Int) := of_decide_eq_true (by first | (with_reducible assumption) | assumption); obtain ⟨ad184, e184, hx184_0, hx184_1, hx184_2⟩ := at_T51 HR0.out x3_1 p184 q184; cases e184; replace hx184_0 := (HB.out.cell (World.block_lt_of_cell? w _ hx184_0)).trans hx184_0; replace hx184_1 := (HB.out.cell (World.block_lt_of_cell? w _ hx184_1)).trans hx184_1; replace hx184_2 := (HB.out.cell (World.block_lt_of_cell? w _ hx184_2)).trans hx184_2; replace p184 := eq_true p184; replace q184 := eq_true q184; have p185 : 0 ≤ (x3_1 : Int) := of_decide_eq_true (by first | (with_reducible assumption) | assumption); have q185 : x3_1 < (l0.length : Int) := of_decide_eq_true (by first | (with_reducible assumption) | assumption); obtain ⟨ad185, e185, hx185_0, hx185_1, hx185_2⟩ := at_T51 HR0.out x3_1 p185 q185; obtain rfl : ad184 = ad185 := (by injection e185); replace hx185_0 := (HB.out.cell (World.block_lt_of_cell? w _ hx185_0)).trans hx185_0; replace hx185_1 := (HB.out.cell (World.block_lt_of_cell? w _ hx185_1)).trans hx185_1; replace hx185_2 := (HB.out.cell (World.block_lt_of_cell? w _ hx185_2)).trans hx185_2; replace p185 := eq_true p185; replace q185 := eq_true q185; have p186 : 0 ≤ (x3_1 : Int) := of_decide_eq_true (by first | (with_reducible assumption) | assumption); have q186 : x3_1 < (l0.length : Int) := of_decide_eq_true (by first | (with_reducible assumption) | assumption); obtain ⟨ad186, e186, hx186_0, hx186_1, hx186_2⟩ := at_T51 HR0.out x3_1 p186 q186; obtain rfl : ad184 = ad186 := (by injection e186); replace hx186_0 := (HB.out.cell (World.block_lt_of_cell? w _ hx186_0)).trans hx186_0; replace hx186_1 := (HB.out.cell (World.block_lt_of_cell? w _ hx186_1)).trans hx186_1; replace hx186_2 := (HB.out.cell (World.block_lt_of_cell? w _ hx186_2)).trans hx186_2; replace p186 := eq_true p186; replace q186 := eq_true q186; obtain ⟨Ao11, co11, eo11⟩ := Kd.R_slice HO181.out; subst eo11) | (go_at_call 44; (with_reducible refine (spec_place.calls k1 _ _ t178 ((rd_T51 l0 x3_1).f1) ((rd_T51 l0 x3_1).f2) t187 _ ?side1 ?side2 A7.out).mono ?_); (case side1 => repeat (first | exact (Kd.R_reads' HO181.out).2.2 | (with_reducible refine Kd.C_alloc ?_ _) | (with_reducible refine Kd.C_drewN ?_ _) | (with_reducible refine Kd.C_drew ?_))); (case side2 => exact (Kd.R_reads' HO181.out).2.1); rintro e w' ⟨rfl, ⟨nd, rfl⟩⟩; (try first | exact ⟨rfl, _, World.drewN_drewN _ _ _⟩ | exact ⟨rfl, _, Eq.trans (World.drewN_drewN _ _ _) (congrArg (World.drewN _) (Nat.add_assoc _ _ _))⟩))))
        go_ret
        exact ⟨by first | rfl | (simp [errW_none, errW_some] <;> rfl) | (simp [*, errW_none, errW_some] <;> rfl) | (simp [errW_none, errW_some]; generalize ByteArray.toList _ = l_; cases l_ <;> rfl), by repeat (first | (with_reducible first | exact HB.out | apply below_alloc | apply pw_below_drewN | apply below_drew1) | exact HB.out)⟩
       ·
        rw [if_neg c8] at H
        have c8b0 : decide (0 ≤ t187) = false := decide_eq_false c8
        clear c8
        have H' := Aside0.mk H
        clear H
        have q12 : (x3_1 : Int) ≤ ((l0.length : Int) : Int) := of_decide_eq_true (by first | (with_reducible assumption) | assumption)
        obtain ⟨i012, hi012, _, hsz12, _⟩ := info_parts info51
        have hroom12 : l0.length ≤ c0 := HC0.out
        have hC12 : Kd.C k51 _ A0 l0.length l0 := HR0.out
        have hcut12 := cut_to (P := Tryd.prog) 22 51 .i64 Tryd.underlying22 hi012 A0 l0.length c0 x3_1 (of_decide_eq_true (by first | (with_reducible assumption) | assumption)) q12 hroom12
        have hr12 := Kd.C_take (m := (x3_1 : Int).toNat) hC12 (by omega)
        have hy12 : y174.length = (x3_1 : Int).toNat := (by rw [Ny174.out, List.length_take]; omega)
        rw [← Ny174.out] at hr12
        rw [← hy12] at hcut12
        have HR177 := Aside0.mk hr12
        have HC177 := Aside0.mk (show y174.length ≤ c0 from by omega)
        clear hr12 hC12 hroom12 hi012 hsz12
        have KY12 := Aside0.mk hy12
        clear hy12
        replace q12 := eq_true q12
        go_wp2_with (first | (go_at_call 29; (with_reducible refine (spec_List.calls k1 _ _ y174 t178 t179 _ ?side1 ?side2 A5.out).mono ?_); (case side1 => repeat (first | exact (Kd.C_below HR177.out HB.out) | (with_reducible refine Kd.C_alloc ?_ _) | (with_reducible refine Kd.C_drewN ?_ _) | (with_reducible refine Kd.C_drew ?_))); (case side2 => exact HC177.out); rintro e w13 ⟨v180, v182, rfl, ho0, ho1, hb⟩; have n0_ := Aside0.mk (Kd.R_lower ho0 (below_size (by repeat (first | (with_reducible first | exact HB.out | apply below_alloc | apply pw_below_drewN | apply below_drew1) | exact HB.out)))); have n1_ := Aside0.mk (Kd.R_lower ho1 (below_size (by repeat (first | (with_reducible first | exact HB.out | apply below_alloc | apply pw_below_drewN | apply below_drew1) | exact HB.out)))); have n2_ := Aside0.mk (below_step (by repeat (first | (with_reducible first | exact HB.out | apply below_alloc | apply pw_below_drewN | apply below_drew1) | exact HB.out)) hb); clear HB; have HO181 := n0_; have HO183 := n1_; have HB := n2_; clear n0_ n1_ n2_; (try clear hb); (try clear hb2); (try clear hk); (try clear hi); (try clear ho0); (try clear ho1); have p184 : 0 ≤ (x3_1 : Int) := of_decide_eq_true (by first | (with_reducible assumption) | assumption); have q184 : x3_1 < (l0.length : Int) := of_decide_eq_true (by first | (with_reducible assumption) | assumption); obtain ⟨ad184, e184, hx184_0, hx184_1, hx184_2⟩ := at_T51 HR0.out x3_1 p184 q184; cases e184; replace hx184_0 := (HB.out.cell (World.block_lt_of_cell? w _ hx184_0)).trans hx184_0; replace hx184_1 := (HB.out.cell (World.block_lt_of_cell? w _ hx184_1)).trans hx184_1; replace hx184_2 := (HB.out.cell (World.block_lt_of_cell? w _ hx184_2)).trans hx184_2; replace p184 := eq_true p184; replace q184 := eq_true q184; have p185 : 0 ≤ (x3_1 : Int) := of_decide_eq_true (by first | (with_reducible assumption) | assumption); have q185 : x3_1 < (l0.length : Int) := of_decide_eq_true (by first | (with_reducible assumption) | assumption); obtain ⟨ad185, e185, hx185_0, hx185_1, hx185_2⟩ := at_T51 HR0.out x3_1 p185 q185; obtain rfl : ad184 = ad185 := (by injection e185); replace hx185_0 := (HB.out.cell (World.block_lt_of_cell? w _ hx185_0)).trans hx185_0; replace hx185_1 := (HB.out.cell (World.block_lt_of_cell? w _ hx185_1)).trans hx185_1; replace hx185_2 := (HB.out.cell (World.block_lt_of_cell? w _ hx185_2)).trans hx185_2; replace p185 := eq_true p185; replace q185 := eq_true q185; have p186 : 0 ≤ (x3_1 : Int) := of_decide_eq_true (by first | (with_reducible assumption) | assumption); have q186 : x3_1 < (l0.length : Int) := of_decide_eq_true (by first | (with_reducible assumption) | assumption); obtain ⟨ad186, e186, hx186_0, hx186_1, hx186_2⟩ := at_T51 HR0.out x3_1 p186 q186; obtain rfl : ad184 = ad186 := (by injection e186); replace hx186_0 := (HB.out.cell (World.block_lt_of_cell? w _ hx186_0)).trans hx186_0; replace hx186_1 := (HB.out.cell (World.block_lt_of_cell? w _ hx186_1)).trans hx186_1; replace hx186_2 := (HB.out.cell (World.block_lt_of_cell? w _ hx186_2)).trans hx186_2; replace p186 := eq_true p186; replace q186 := eq_true q186; obtain ⟨Ao14, co14, eo14⟩ := Kd.R_slice HO181.out; subst eo14) | (go_at_call 44; (with_reducible refine (spec_place.calls k1 _ _ t178 ((rd_T51 l0 x3_1).f1) ((rd_T51 l0 x3_1).f2) t187 _ ?side1 ?side2 A7.out).mono ?_); (case side1 => repeat (first | exact (Kd.R_reads' HO181.out).2.2 | (with_reducible refine Kd.C_alloc ?_ _) | (with_reducible refine Kd.C_drewN ?_ _) | (with_reducible refine Kd.C_drew ?_))); (case side2 => exact (Kd.R_reads' HO181.out).2.1); rintro e w' ⟨rfl, ⟨nd, rfl⟩⟩; (try first | exact ⟨rfl, _, World.drewN_drewN _ _ _⟩ | exact ⟨rfl, _, Eq.trans (World.drewN_drewN _ _ _) (congrArg (World.drewN _) (Nat.add_assoc _ _ _))⟩)))
        repeat (go_quiet (first | (go_at_call 29; (with_reducible refine (spec_List.calls k1 _ _ y174 t178 t179 _ ?side1 ?side2 A5.out).mono ?_); (case side1 => repeat (first | exact (Kd.C_below HR177.out HB.out) | (with_reducible refine Kd.C_alloc ?_ _) | (with_reducible refine Kd.C_drewN ?_ _) | (with_reducible refine Kd.C_drew ?_))); (case side2 => exact HC177.out); rintro e w13 ⟨v180, v182, rfl, ho0, ho1, hb⟩; have n0_ := Aside0.mk (Kd.R_lower ho0 (below_size (by repeat (first | (with_reducible first | exact HB.out | apply below_alloc | apply pw_below_drewN | apply below_drew1) | exact HB.out)))); have n1_ := Aside0.mk (Kd.R_lower ho1 (below_size (by repeat (first | (with_reducible first | exact HB.out | apply below_alloc | apply pw_below_drewN | apply below_drew1) | exact HB.out)))); have n2_ := Aside0.mk (below_step (by repeat (first | (with_reducible first | exact HB.out | apply below_alloc | apply pw_below_drewN | apply below_drew1) | exact HB.out)) hb); clear HB; have HO181 := n0_; have HO183 := n1_; have HB := n2_; clear n0_ n1_ n2_; (try clear hb); (try clear hb2); (try clear hk); (try clear hi); (try clear ho0); (try clear ho1); have p184 : 0 ≤ (x3_1 : Int) := of_decide_eq_true (by first | (with_reducible assumption) | assumption); have q184 : x3_1 < (l0.length : Int) := of_decide_eq_true (by first | (with_reducible assumption) | assumption); obtain ⟨ad184, e184, hx184_0, hx184_1, hx184_2⟩ := at_T51 HR0.out x3_1 p184 q184; cases e184; replace hx184_0 := (HB.out.cell (World.block_lt_of_cell? w _ hx184_0)).trans hx184_0; replace hx184_1 := (HB.out.cell (World.block_lt_of_cell? w _ hx184_1)).trans hx184_1; replace hx184_2 := (HB.out.cell (World.block_lt_of_cell? w _ hx184_2)).trans hx184_2; replace p184 := eq_true p184; replace q184 := eq_true q184; have p185 : 0 ≤ (x3_1 : Int) := of_decide_eq_true (by first | (with_reducible assumption) | assumption); have q185 : x3_1 < (l0.length : Int) := of_decide_eq_true (by first | (with_reducible assumption) | assumption); obtain ⟨ad185, e185, hx185_0, hx185_1, hx185_2⟩ := at_T51 HR0.out x3_1 p185 q185; obtain rfl : ad184 = ad185 := (by injection e185); replace hx185_0 := (HB.out.cell (World.block_lt_of_cell? w _ hx185_0)).trans hx185_0; replace hx185_1 := (HB.out.cell (World.block_lt_of_cell? w _ hx185_1)).trans hx185_1; replace hx185_2 := (HB.out.cell (World.block_lt_of_cell? w _ hx185_2)).trans hx185_2; replace p185 := eq_true p185; replace q185 := eq_true q185; have p186 : 0 ≤ (x3_1 : Int) := of_decide_eq_true (by first | (with_reducible assumption) | assumption); have q186 : x3_1 < (l0.length : Int) := of_decide_eq_true (by first | (with_reducible assumption) | assumption); obtain ⟨ad186, e186, hx186_0, hx186_1, hx186_2⟩ := at_T51 HR0.out x3_1 p186 q186; obtain rfl : ad184 = ad186 := (by injection e186); replace hx186_0 := (HB.out.cell (World.block_lt_of_cell? w _ hx186_0)).trans hx186_0; replace hx186_1 := (HB.out.cell (World.block_lt_of_cell? w _ hx186_1)).trans hx186_1; replace hx186_2 := (HB.out.cell (World.block_lt_of_cell? w _ hx186_2)).trans hx186_2; replace p186 := eq_true p186; replace q186 := eq_true q186; obtain ⟨Ao14, co14, eo14⟩ := Kd.R_slice HO181.out; subst eo14) | (go_at_call 44; (with_reducible refine (spec_place.calls k1 _ _ t178 ((rd_T51 l0 x3_1).f1) ((rd_T51 l0 x3_1).f2) t187 _ ?side1 ?side2 A7.out).mono ?_); (case side1 => repeat (first | exact (Kd.R_reads' HO181.out).2.2 | (with_reducible refine Kd.C_alloc ?_ _) | (with_reducible refine Kd.C_drewN ?_ _) | (with_reducible refine Kd.C_drew ?_))); (case side2 => exact (Kd.R_reads' HO181.out).2.1); rintro e w' ⟨rfl, ⟨nd, rfl⟩⟩; (try first | exact ⟨rfl, _, World.drewN_drewN _ _ _⟩ | exact ⟨rfl, _, Eq.trans (World.drewN_drewN _ _ _) (congrArg (World.drewN _) (Nat.add_assoc _ _ _))⟩))); try go_wp2_with (first | (go_at_call 29; (with_reducible refine (spec_List.calls k1 _ _ y174 t178 t179 _ ?side1 ?side2 A5.out).mono ?_); (case side1 => repeat (first | exact (Kd.C_below HR177.out HB.out) | (with_reducible refine Kd.C_alloc ?_ _) | (with_reducible refine Kd.C_drewN ?_ _) | (with_reducible refine Kd.C_drew ?_))); (case side2 => exact HC177.out); rintro e w13 ⟨v180, v182, rfl, ho0, ho1, hb⟩; have n0_ := Aside0.mk (Kd.R_lower ho0 (below_size (by repeat (first | (with_reducible first | exact HB.out | apply below_alloc | apply pw_below_drewN | apply below_drew1) | exact HB.out)))); have n1_ := Aside0.mk (Kd.R_lower ho1 (below_size (by repeat (first | (with_reducible first | exact HB.out | apply below_alloc | apply pw_below_drewN | apply below_drew1) | exact HB.out)))); have n2_ := Aside0.mk (below_step (by repeat (first | (with_reducible first | exact HB.out | apply below_alloc | apply pw_below_drewN | apply below_drew1) | exact HB.out)) hb); clear HB; have HO181 := n0_; have HO183 := n1_; have HB := n2_; clear n0_ n1_ n2_; (try clear hb); (try clear hb2); (try clear hk); (try clear hi); (try clear ho0); (try clear ho1); have p184 : 0 ≤ (x3_1 : Int) := of_decide_eq_true (by first | (with_reducible assumption) | assumption); have q184 : x3_1 < (l0.length : Int) := of_decide_eq_true (by first | (with_reducible assumption) | assumption); obtain ⟨ad184, e184, hx184_0, hx184_1, hx184_2⟩ := at_T51 HR0.out x3_1 p184 q184; cases e184; replace hx184_0 := (HB.out.cell (World.block_lt_of_cell? w _ hx184_0)).trans hx184_0; replace hx184_1 := (HB.out.cell (World.block_lt_of_cell? w _ hx184_1)).trans hx184_1; replace hx184_2 := (HB.out.cell (World.block_lt_of_cell? w _ hx184_2)).trans hx184_2; replace p184 := eq_true p184; replace q184 := eq_true q184; have p185 : 0 ≤ (x3_1 : Int) := of_decide_eq_true (by first | (with_reducible assumption) | assumption); have q185 : x3_1 < (l0.length : Int) := of_decide_eq_true (by first | (with_reducible assumption) | assumption); obtain ⟨ad185, e185, hx185_0, hx185_1, hx185_2⟩ := at_T51 HR0.out x3_1 p185 q185; obtain rfl : ad184 = ad185 := (by injection e185); replace hx185_0 := (HB.out.cell (World.block_lt_of_cell? w _ hx185_0)).trans hx185_0; replace hx185_1 := (HB.out.cell (World.block_lt_of_cell? w _ hx185_1)).trans hx185_1; replace hx185_2 := (HB.out.cell (World.block_lt_of_cell? w _ hx185_2)).trans hx185_2; replace p185 := eq_true p185; replace q185 := eq_true q185; have p186 : 0 ≤ (x3_1 : Int) := of_decide_eq_true (by first | (with_reducible assumption) | assumption); have q186 : x3_1 < (l0.length : Int) := of_decide_eq_true (by first | (with_reducible assumption) | assumption); obtain ⟨ad186, e186, hx186_0, hx186_1, hx186_2⟩ := at_T51 HR0.out x3_1 p186 q186; obtain rfl : ad184 = ad186 := (by injection e186); replace hx186_0 := (HB.out.cell (World.block_lt_of_cell? w _ hx186_0)).trans hx186_0; replace hx186_1 := (HB.out.cell (World.block_lt_of_cell? w _ hx186_1)).trans hx186_1; replace hx186_2 := (HB.out.cell (World.block_lt_of_cell? w _ hx186_2)).trans hx186_2; replace p186 := eq_true p186; replace q186 := eq_true q186; obtain ⟨Ao14, co14, eo14⟩ := Kd.R_slice HO181.out; subst eo14) | (go_at_call 44; (with_reducible refine (spec_place.calls k1 _ _ t178 ((rd_T51 l0 x3_1).f1) ((rd_T51 l0 x3_1).f2) t187 _ ?side1 ?side2 A7.out).mono ?_); (case side1 => repeat (first | exact (Kd.R_reads' HO181.out).2.2 | (with_reducible refine Kd.C_alloc ?_ _) | (with_reducible refine Kd.C_drewN ?_ _) | (with_reducible refine Kd.C_drew ?_))); (case side2 => exact (Kd.R_reads' HO181.out).2.1); rintro e w' ⟨rfl, ⟨nd, rfl⟩⟩; (try first | exact ⟨rfl, _, World.drewN_drewN _ _ _⟩ | exact ⟨rfl, _, Eq.trans (World.drewN_drewN _ _ _) (congrArg (World.drewN _) (Nat.add_assoc _ _ _))⟩))))
        go_roundg k1
        case measure => have := HK1.out; omega
        case rel => exact ⟨(wrap64 (x3_1 + 1)), (by first | rfl | (simp; done) | (simp [*]; done)), H', ⟨by have := HK1.out; omega⟩, ⟨by repeat (first | (with_reducible first | exact HB.out | apply below_alloc | apply pw_below_drewN | apply below_drew1) | exact HB.out)⟩⟩
      ·
       rw [if_neg c6] at H
       have c6b0 : (((rd_T51 l0 x3_1).f0) == 0) = false := beq_eq_false_iff_ne.mpr c6
       have c6b1 : (((rd_T51 l0 x3_1).f0) != 0) = true := bne_iff_ne.mpr c6
       have H' := Aside0.mk H
       clear H
       have q15 : (x3_1 : Int) ≤ ((l0.length : Int) : Int) := of_decide_eq_true (by first | (with_reducible assumption) | assumption)
       obtain ⟨i015, hi015, _, hsz15, _⟩ := info_parts info51
       have hroom15 : l0.length ≤ c0 := HC0.out
       have hC15 : Kd.C k51 _ A0 l0.length l0 := HR0.out
       have hcut15 := cut_to (P := Tryd.prog) 22 51 .i64 Tryd.underlying22 hi015 A0 l0.length c0 x3_1 (of_decide_eq_true (by first | (with_reducible assumption) | assumption)) q15 hroom15
       have hr15 := Kd.C_take (m := (x3_1 : Int).toNat) hC15 (by omega)
       have hy15 : y174.length = (x3_1 : Int).toNat := (by rw [Ny174.out, List.length_take]; omega)
       rw [← Ny174.out] at hr15
       rw [← hy15] at hcut15
       have HR177 := Aside0.mk hr15
       have HC177 := Aside0.mk (show y174.length ≤ c0 from by omega)
       clear hr15 hC15 hroom15 hi015 hsz15
       have KY15 := Aside0.mk hy15
       clear hy15
       replace q15 := eq_true q15
       go_wp2_with (first | (go_at_call 29; (with_reducible refine (spec_List.calls k1 _ _ y174 t178 t179 _ ?side1 ?side2 A5.out).mono ?_); (case side1 => repeat (first | exact (Kd.C_below HR177.out HB.out) | (with_reducible refine Kd.C_alloc ?_ _) | (with_reducible refine Kd.C_drewN ?_ _) | (with_reducible refine Kd.C_drew ?_))); (case side2 => exact HC177.out); rintro e w16 ⟨v180, v182, rfl, ho0, ho1, hb⟩; have n0_ := Aside0.mk (Kd.R_lower ho0 (below_size (by repeat (first | (with_reducible first | exact HB.out | apply below_alloc | apply pw_below_drewN | apply below_drew1) | exact HB.out)))); have n1_ := Aside0.mk (Kd.R_lower ho1 (below_size (by repeat (first | (with_reducible first | exact HB.out | apply below_alloc | apply pw_below_drewN | apply below_drew1) | exact HB.out)))); have n2_ := Aside0.mk (below_step (by repeat (first | (with_reducible first | exact HB.out | apply below_alloc | apply pw_below_drewN | apply below_drew1) | exact HB.out)) hb); clear HB; have HO181 := n0_; have HO183 := n1_; have HB := n2_; clear n0_ n1_ n2_; (try clear hb); (try clear hb2); (try clear hk); (try clear hi); (try clear ho0); (try clear ho1); have p184 : 0 ≤ (x3_1 : Int) := of_decide_eq_true (by first | (with_reducible assumption) | assumption); have q184 : x3_1 < (l0.length : Int) := of_decide_eq_true (by first | (with_reducible assumption) | assumption); obtain ⟨ad184, e184, hx184_0, hx184_1, hx184_2⟩ := at_T51 HR0.out x3_1 p184 q184; cases e184; replace hx184_0 := (HB.out.cell (World.block_lt_of_cell? w _ hx184_0)).trans hx184_0; replace hx184_1 := (HB.out.cell (World.block_lt_of_cell? w _ hx184_1)).trans hx184_1; replace hx184_2 := (HB.out.cell (World.block_lt_of_cell? w _ hx184_2)).trans hx184_2; replace p184 := eq_true p184; replace q184 := eq_true q184))
       repeat (go_quiet (first | (go_at_call 29; (with_reducible refine (spec_List.calls k1 _ _ y174 t178 t179 _ ?side1 ?side2 A5.out).mono ?_); (case side1 => repeat (first | exact (Kd.C_below HR177.out HB.out) | (with_reducible refine Kd.C_alloc ?_ _) | (with_reducible refine Kd.C_drewN ?_ _) | (with_reducible refine Kd.C_drew ?_))); (case side2 => exact HC177.out); rintro e w16 ⟨v180, v182, rfl, ho0, ho1, hb⟩; have n0_ := Aside0.mk (Kd.R_lower ho0 (below_size (by repeat (first | (with_reducible first | exact HB.out | apply below_alloc | apply pw_below_drewN | apply below_drew1) | exact HB.out)))); have n1_ := Aside0.mk (Kd.R_lower ho1 (below_size (by repeat (first | (with_reducible first | exact HB.out | apply below_alloc | apply pw_below_drewN | apply below_drew1) | exact HB.out)))); have n2_ := Aside0.mk (below_step (by repeat (first | (with_reducible first | exact HB.out | apply below_alloc | apply pw_below_drewN | apply below_drew1) | exact HB.out)) hb); clear HB; have HO181 := n0_; have HO183 := n1_; have HB := n2_; clear n0_ n1_ n2_; (try clear hb); (try clear hb2); (try clear hk); (try clear hi); (try clear ho0); (try clear ho1); have p184 : 0 ≤ (x3_1 : Int) := of_decide_eq_true (by first | (with_reducible assumption) | assumption); have q184 : x3_1 < (l0.length : Int) := of_decide_eq_true (by first | (with_reducible assumption) | assumption); obtain ⟨ad184, e184, hx184_0, hx184_1, hx184_2⟩ := at_T51 HR0.out x3_1 p184 q184; cases e184; replace hx184_0 := (HB.out.cell (World.block_lt_of_cell? w _ hx184_0)).trans hx184_0; replace hx184_1 := (HB.out.cell (World.block_lt_of_cell? w _ hx184_1)).trans hx184_1; replace hx184_2 := (HB.out.cell (World.block_lt_of_cell? w _ hx184_2)).trans hx184_2; replace p184 := eq_true p184; replace q184 := eq_true q184)); try go_wp2_with (first | (go_at_call 29; (with_reducible refine (spec_List.calls k1 _ _ y174 t178 t179 _ ?side1 ?side2 A5.out).mono ?_); (case side1 => repeat (first | exact (Kd.C_below HR177.out HB.out) | (with_reducible refine Kd.C_alloc ?_ _) | (with_reducible refine Kd.C_drewN ?_ _) | (with_reducible refine Kd.C_drew ?_))); (case side2 => exact HC177.out); rintro e w16 ⟨v180, v182, rfl, ho0, ho1, hb⟩; have n0_ := Aside0.mk (Kd.R_lower ho0 (below_size (by repeat (first | (with_reducible first | exact HB.out | apply below_alloc | apply pw_below_drewN | apply below_drew1) | exact HB.out)))); have n1_ := Aside0.mk (Kd.R_lower ho1 (below_size (by repeat (first | (with_reducible first | exact HB.out | apply below_alloc | apply pw_below_drewN | apply below_drew1) | exact HB.out)))); have n2_ := Aside0.mk (below_step (by repeat (first | (with_reducible first | exact HB.out | apply below_alloc | apply pw_below_drewN | apply below_drew1) | exact HB.out)) hb); clear HB; have HO181 := n0_; have HO183 := n1_; have HB := n2_; clear n0_ n1_ n2_; (try clear hb); (try clear hb2); (try clear hk); (try clear hi); (try clear ho0); (try clear ho1); have p184 : 0 ≤ (x3_1 : Int) := of_decide_eq_true (by first | (with_reducible assumption) | assumption); have q184 : x3_1 < (l0.length : Int) := of_decide_eq_true (by first | (with_reducible assumption) | assumption); obtain ⟨ad184, e184, hx184_0, hx184_1, hx184_2⟩ := at_T51 HR0.out x3_1 p184 q184; cases e184; replace hx184_0 := (HB.out.cell (World.block_lt_of_cell? w _ hx184_0)).trans hx184_0; replace hx184_1 := (HB.out.cell (World.block_lt_of_cell? w _ hx184_1)).trans hx184_1; replace hx184_2 := (HB.out.cell (World.block_lt_of_cell? w _ hx184_2)).trans hx184_2; replace p184 := eq_true p184; replace q184 := eq_true q184)))
       go_roundg k1
       case measure => have := HK1.out; omega
       case rel => exact ⟨(wrap64 (x3_1 + 1)), (by first | rfl | (simp; done) | (simp [*]; done)), H', ⟨by have := HK1.out; omega⟩, ⟨by repeat (first | (with_reducible first | exact HB.out | apply below_alloc | apply pw_below_drewN | apply below_drew1) | exact HB.out)⟩⟩
     ·
      rw [if_neg c4] at H
      exact absurd H (by simp)
    ·
     rw [if_neg c3] at H
     exact absurd H (by simp)
   ·
    rw [if_neg c2] at H
    have c2b0 : decide (x3_1 < (l0.length : Int)) = false := decide_eq_false c2
    clear c2
    obtain rfl := Option.some.inj H
    go_wp2
    repeat (go_quiet (fail); try go_wp2)
    go_ret
    exact ⟨by first | rfl | (simp [errW_none, errW_some] <;> rfl) | (simp [*, errW_none, errW_some] <;> rfl) | (simp [errW_none, errW_some]; generalize ByteArray.toList _ = l_; cases l_ <;> rfl), by repeat (first | (with_reducible first | exact HB.out | apply below_alloc | apply pw_below_drewN | apply below_drew1) | exact HB.out)⟩

/-! ### laws_puts: function 22 -/
mutual
def laws_puts.j0 : Nat → List (S51) → Bool → Option (Bool)
 | 0, _, _ => none
 | k + 1, x0, x11 => if x11 = true then (some false) else (laws_puts.l0 k x0 0)
def laws_puts.l0 : Nat → List (S51) → Int → Option (Bool)
 | 0, _, _ => none
 | k + 1, x0, x3 => if x3 < (x0.length : Int) then (if 0 ≤ x3 then (if ((rd_T51 x0 x3).f0) = 0 then ((spec_Valid.f k ((rd_T51 x0 x3).f1)).bind fun t192 => (laws_puts.j2 k x0 x3 (!t192))) else (laws_puts.j2 k x0 x3 true)) else (none)) else (some true)
def laws_puts.j2 : Nat → List (S51) → Int → Bool → Option (Bool)
 | 0, _, _, _ => none
 | k + 1, x0, x3, x32 => if x32 = true then (some false) else (laws_puts.l1 k x0 x3 0)
def laws_puts.l1 : Nat → List (S51) → Int → Int → Option (Bool)
 | 0, _, _, _ => none
 | k + 1, x0, x3, x4 => if x4 < x3 then (if 0 ≤ x4 then (if x4 < (x0.length : Int) then (if 0 ≤ x3 then (if x3 < (x0.length : Int) then (if ((rd_T51 x0 x4).f2) = ((rd_T51 x0 x3).f2) then (some false) else (laws_puts.l1 k x0 x3 (wrap64 (x4 + 1)))) else (none)) else (none)) else (none)) else (none)) else (laws_puts.l0 k x0 (wrap64 (x3 + 1)))
end
def laws_puts.f (k : Nat) (l0 : List (S51)) : Option (Bool) := (laws_deeds.f k l0).bind fun t188 => (if t188 = true then ((spec_Twice.f k l0).bind fun t189 => (laws_puts.j0 k l0 t189)) else (laws_puts.j0 k l0 true))
theorem laws_puts.mono_l : ∀ k, (∀ y0 y1, LeO (laws_puts.j0 k y0 y1) (laws_puts.j0 (k + 1) y0 y1)) ∧ (∀ y0 y1, LeO (laws_puts.l0 k y0 y1) (laws_puts.l0 (k + 1) y0 y1)) ∧ (∀ y0 y1 y2, LeO (laws_puts.j2 k y0 y1 y2) (laws_puts.j2 (k + 1) y0 y1 y2)) ∧ (∀ y0 y1 y2, LeO (laws_puts.l1 k y0 y1 y2) (laws_puts.l1 (k + 1) y0 y1 y2))
 | 0 => ⟨fun _ _ r h => by simp [laws_puts.j0] at h, fun _ _ r h => by simp [laws_puts.l0] at h, fun _ _ _ r h => by simp [laws_puts.j2] at h, fun _ _ _ r h => by simp [laws_puts.l1] at h⟩
 | k + 1 => by
  obtain ⟨ih0, ih1, ih2, ih3⟩ := laws_puts.mono_l k
  refine ⟨?_, ?_, ?_, ?_⟩
  ·
   intro y0 y1
   unfold laws_puts.j0
   repeat' first
   | (with_reducible exact ih0 _ _)
   | (with_reducible exact ih1 _ _)
   | (with_reducible exact ih2 _ _ _)
   | (with_reducible exact ih3 _ _ _)
   | (with_reducible exact laws_deeds.mono _ _)
   | (with_reducible exact spec_Twice.mono _ _)
   | (with_reducible exact spec_Valid.mono _ _)
   | (with_reducible exact LeO.refl _)
   | (with_reducible exact LeO.none _)
   | (with_reducible refine LeO.ite ?_ ?_)
   | (with_reducible refine LeO.bind ?_ (fun _ => ?_))
   | exact ih0 _ _
   | exact ih1 _ _
   | exact ih2 _ _ _
   | exact ih3 _ _ _
   | exact laws_deeds.mono _ _
   | exact spec_Twice.mono _ _
   | exact spec_Valid.mono _ _
   | exact LeO.none _
   | refine LeO.ite ?_ ?_
   | refine LeO.bind ?_ (fun _ => ?_)
  ·
   intro y0 y1
   unfold laws_puts.l0
   repeat' first
   | (with_reducible exact ih0 _ _)
   | (with_reducible exact ih1 _ _)
   | (with_reducible exact ih2 _ _ _)
   | (with_reducible exact ih3 _ _ _)
   | (with_reducible exact laws_deeds.mono _ _)
   | (with_reducible exact spec_Twice.mono _ _)
   | (with_reducible exact spec_Valid.mono _ _)
   | (with_reducible exact LeO.refl _)
   | (with_reducible exact LeO.none _)
   | (with_reducible refine LeO.ite ?_ ?_)
   | (with_reducible refine LeO.bind ?_ (fun _ => ?_))
   | exact ih0 _ _
   | exact ih1 _ _
   | exact ih2 _ _ _
   | exact ih3 _ _ _
   | exact laws_deeds.mono _ _
   | exact spec_Twice.mono _ _
   | exact spec_Valid.mono _ _
   | exact LeO.none _
   | refine LeO.ite ?_ ?_
   | refine LeO.bind ?_ (fun _ => ?_)
  ·
   intro y0 y1 y2
   unfold laws_puts.j2
   repeat' first
   | (with_reducible exact ih0 _ _)
   | (with_reducible exact ih1 _ _)
   | (with_reducible exact ih2 _ _ _)
   | (with_reducible exact ih3 _ _ _)
   | (with_reducible exact laws_deeds.mono _ _)
   | (with_reducible exact spec_Twice.mono _ _)
   | (with_reducible exact spec_Valid.mono _ _)
   | (with_reducible exact LeO.refl _)
   | (with_reducible exact LeO.none _)
   | (with_reducible refine LeO.ite ?_ ?_)
   | (with_reducible refine LeO.bind ?_ (fun _ => ?_))
   | exact ih0 _ _
   | exact ih1 _ _
   | exact ih2 _ _ _
   | exact ih3 _ _ _
   | exact laws_deeds.mono _ _
   | exact spec_Twice.mono _ _
   | exact spec_Valid.mono _ _
   | exact LeO.none _
   | refine LeO.ite ?_ ?_
   | refine LeO.bind ?_ (fun _ => ?_)
  ·
   intro y0 y1 y2
   unfold laws_puts.l1
   repeat' first
   | (with_reducible exact ih0 _ _)
   | (with_reducible exact ih1 _ _)
   | (with_reducible exact ih2 _ _ _)
   | (with_reducible exact ih3 _ _ _)
   | (with_reducible exact laws_deeds.mono _ _)
   | (with_reducible exact spec_Twice.mono _ _)
   | (with_reducible exact spec_Valid.mono _ _)
   | (with_reducible exact LeO.refl _)
   | (with_reducible exact LeO.none _)
   | (with_reducible refine LeO.ite ?_ ?_)
   | (with_reducible refine LeO.bind ?_ (fun _ => ?_))
   | exact ih0 _ _
   | exact ih1 _ _
   | exact ih2 _ _ _
   | exact ih3 _ _ _
   | exact laws_deeds.mono _ _
   | exact spec_Twice.mono _ _
   | exact spec_Valid.mono _ _
   | exact LeO.none _
   | refine LeO.ite ?_ ?_
   | refine LeO.bind ?_ (fun _ => ?_)
theorem laws_puts.mono : ∀ a0 k, LeO (laws_puts.f k a0) (laws_puts.f (k + 1) a0) := by
 intro a0 k
 obtain ⟨ih0, ih1, ih2, ih3⟩ := laws_puts.mono_l k
 unfold laws_puts.f
 repeat' first
   | (with_reducible exact ih0 _ _)
   | (with_reducible exact ih1 _ _)
   | (with_reducible exact ih2 _ _ _)
   | (with_reducible exact ih3 _ _ _)
   | (with_reducible exact laws_deeds.mono _ _)
   | (with_reducible exact spec_Twice.mono _ _)
   | (with_reducible exact spec_Valid.mono _ _)
   | (with_reducible exact LeO.refl _)
   | (with_reducible exact LeO.none _)
   | (with_reducible refine LeO.ite ?_ ?_)
   | (with_reducible refine LeO.bind ?_ (fun _ => ?_))
   | exact ih0 _ _
   | exact ih1 _ _
   | exact ih2 _ _ _
   | exact ih3 _ _ _
   | exact laws_deeds.mono _ _
   | exact spec_Twice.mono _ _
   | exact spec_Valid.mono _ _
   | exact LeO.none _
   | refine LeO.ite ?_ ?_
   | refine LeO.bind ?_ (fun _ => ?_)
set_option maxHeartbeats 8000000 in
set_option maxRecDepth 100000 in
theorem laws_puts.calls (k : Nat) (A0 : Option Addr) (c0 : Nat) (l0 : List (S51)) (r : Bool) (w : World) (hr0 : Kd.C k51 w A0 l0.length l0) (hc0 : l0.length ≤ c0) (h : laws_puts.f k l0 = some r) :
  Calls Tryd.prog 22 #[.slice A0 l0.length c0] w fun e w' => e = .returned (.bool r) ∧ Below w.heap.size w w' := by
 have HR0 := Aside0.mk hr0
 have HC0 := Aside0.mk hc0
 clear hr0 hc0
 have HB := Aside0.mk (Below.refl w.heap.size w)
 have H : ((laws_deeds.f k l0).bind fun t188 => (if t188 = true then ((spec_Twice.f k l0).bind fun t189 => (laws_puts.j0 k l0 t189)) else (laws_puts.j0 k l0 true))) = some r := h
 clear h
 have HC2 := Aside0.mk H
 clear H
 go_enter Tryd.func22, Tryd.ntmps22
 go_upto_region 1 with (fail)
 repeat (go_quiet (fail); go_upto_region 1 with (fail))
 go_cut [11] (fun v11 wc => ∃ (kq : Nat) (x11_1 : Bool), v11 = .bool x11_1 ∧ Aside0 (laws_puts.j0 kq l0 x11_1 = some r) ∧ Aside0 (kq ≤ k) ∧ Aside0 (Below w.heap.size w wc))
 case first =>
  have H := HC2.out
  clear HC2
  replace H := Option.bind_eq_some_iff.mp H
  obtain ⟨t188, A30, H⟩ := H
  replace H : (if t188 = true then ((spec_Twice.f k l0).bind fun t189 => (laws_puts.j0 k l0 t189)) else (laws_puts.j0 k l0 true)) = some r := H
  have A3 := Aside0.mk A30
  clear A30
  by_cases c4 : t188 = true
  ·
   subst c4
   have H1 : ((spec_Twice.f k l0).bind fun t189 => (laws_puts.j0 k l0 t189)) = some r := by rw [if_pos rfl] at H; exact H
   clear H
   have H := H1
   clear H1
   replace H := Option.bind_eq_some_iff.mp H
   obtain ⟨t189, A50, H⟩ := H
   replace H : (laws_puts.j0 k l0 t189) = some r := H
   have A5 := Aside0.mk A50
   clear A50
   have H' := Aside0.mk H
   clear H
   go_wp2_with (first | (go_at_call 26; (with_reducible refine (laws_deeds.calls k _ _ l0 true _ ?side1 ?side2 A3.out).mono ?_); (case side1 => repeat (first | exact (Kd.C_below HR0.out HB.out) | (with_reducible refine Kd.C_alloc ?_ _) | (with_reducible refine Kd.C_drewN ?_ _) | (with_reducible refine Kd.C_drew ?_))); (case side2 => exact HC0.out); rintro e w6 ⟨rfl, hb⟩; have n0_ := Aside0.mk (below_step (by repeat (first | (with_reducible first | exact HB.out | apply below_alloc | apply pw_below_drewN | apply below_drew1) | exact HB.out)) hb); clear HB; have HB := n0_; clear n0_; (try clear hb); (try clear hb2); (try clear hk); (try clear hi)) | (go_at_call 27; (with_reducible refine (spec_Twice.calls k _ _ l0 t189 _ ?side1 ?side2 A5.out).mono ?_); (case side1 => repeat (first | exact (Kd.C_below HR0.out HB.out) | (with_reducible refine Kd.C_alloc ?_ _) | (with_reducible refine Kd.C_drewN ?_ _) | (with_reducible refine Kd.C_drew ?_))); (case side2 => exact HC0.out); rintro e w7 ⟨rfl, hb⟩; have n0_ := Aside0.mk (below_step (by repeat (first | (with_reducible first | exact HB.out | apply below_alloc | apply pw_below_drewN | apply below_drew1) | exact HB.out)) hb); clear HB; have HB := n0_; clear n0_; (try clear hb); (try clear hb2); (try clear hk); (try clear hi)))
   repeat (go_quiet (first | (go_at_call 26; (with_reducible refine (laws_deeds.calls k _ _ l0 true _ ?side1 ?side2 A3.out).mono ?_); (case side1 => repeat (first | exact (Kd.C_below HR0.out HB.out) | (with_reducible refine Kd.C_alloc ?_ _) | (with_reducible refine Kd.C_drewN ?_ _) | (with_reducible refine Kd.C_drew ?_))); (case side2 => exact HC0.out); rintro e w6 ⟨rfl, hb⟩; have n0_ := Aside0.mk (below_step (by repeat (first | (with_reducible first | exact HB.out | apply below_alloc | apply pw_below_drewN | apply below_drew1) | exact HB.out)) hb); clear HB; have HB := n0_; clear n0_; (try clear hb); (try clear hb2); (try clear hk); (try clear hi)) | (go_at_call 27; (with_reducible refine (spec_Twice.calls k _ _ l0 t189 _ ?side1 ?side2 A5.out).mono ?_); (case side1 => repeat (first | exact (Kd.C_below HR0.out HB.out) | (with_reducible refine Kd.C_alloc ?_ _) | (with_reducible refine Kd.C_drewN ?_ _) | (with_reducible refine Kd.C_drew ?_))); (case side2 => exact HC0.out); rintro e w7 ⟨rfl, hb⟩; have n0_ := Aside0.mk (below_step (by repeat (first | (with_reducible first | exact HB.out | apply below_alloc | apply pw_below_drewN | apply below_drew1) | exact HB.out)) hb); clear HB; have HB := n0_; clear n0_; (try clear hb); (try clear hb2); (try clear hk); (try clear hi))); try go_wp2_with (first | (go_at_call 26; (with_reducible refine (laws_deeds.calls k _ _ l0 true _ ?side1 ?side2 A3.out).mono ?_); (case side1 => repeat (first | exact (Kd.C_below HR0.out HB.out) | (with_reducible refine Kd.C_alloc ?_ _) | (with_reducible refine Kd.C_drewN ?_ _) | (with_reducible refine Kd.C_drew ?_))); (case side2 => exact HC0.out); rintro e w6 ⟨rfl, hb⟩; have n0_ := Aside0.mk (below_step (by repeat (first | (with_reducible first | exact HB.out | apply below_alloc | apply pw_below_drewN | apply below_drew1) | exact HB.out)) hb); clear HB; have HB := n0_; clear n0_; (try clear hb); (try clear hb2); (try clear hk); (try clear hi)) | (go_at_call 27; (with_reducible refine (spec_Twice.calls k _ _ l0 t189 _ ?side1 ?side2 A5.out).mono ?_); (case side1 => repeat (first | exact (Kd.C_below HR0.out HB.out) | (with_reducible refine Kd.C_alloc ?_ _) | (with_reducible refine Kd.C_drewN ?_ _) | (with_reducible refine Kd.C_drew ?_))); (case side2 => exact HC0.out); rintro e w7 ⟨rfl, hb⟩; have n0_ := Aside0.mk (below_step (by repeat (first | (with_reducible first | exact HB.out | apply below_alloc | apply pw_below_drewN | apply below_drew1) | exact HB.out)) hb); clear HB; have HB := n0_; clear n0_; (try clear hb); (try clear hb2); (try clear hk); (try clear hi))))
   go_meet
   case rel => exact ⟨_, (t189), (by first | rfl | (simp; done) | (simp [*]; done)), H', ⟨by first | omega | exact Nat.le_refl _⟩, ⟨by repeat (first | (with_reducible first | exact HB.out | apply below_alloc | apply pw_below_drewN | apply below_drew1) | exact HB.out)⟩⟩
  ·
   replace c4 := Bool.eq_false_iff.mpr c4
   subst c4
   have H1 : (laws_puts.j0 k l0 true) = some r := by rw [if_neg (show ¬ (false = true) by decide)] at H; exact H
   clear H
   have H := H1
   clear H1
   have H' := Aside0.mk H
   clear H
   go_wp2_with (first | (go_at_call 26; (with_reducible refine (laws_deeds.calls k _ _ l0 false _ ?side1 ?side2 A3.out).mono ?_); (case side1 => repeat (first | exact (Kd.C_below HR0.out HB.out) | (with_reducible refine Kd.C_alloc ?_ _) | (with_reducible refine Kd.C_drewN ?_ _) | (with_reducible refine Kd.C_drew ?_))); (case side2 => exact HC0.out); rintro e w8 ⟨rfl, hb⟩; have n0_ := Aside0.mk (below_step (by repeat (first | (with_reducible first | exact HB.out | apply below_alloc | apply pw_below_drewN | apply below_drew1) | exact HB.out)) hb); clear HB; have HB := n0_; clear n0_; (try clear hb); (try clear hb2); (try clear hk); (try clear hi)))
   repeat (go_quiet (first | (go_at_call 26; (with_reducible refine (laws_deeds.calls k _ _ l0 false _ ?side1 ?side2 A3.out).mono ?_); (case side1 => repeat (first | exact (Kd.C_below HR0.out HB.out) | (with_reducible refine Kd.C_alloc ?_ _) | (with_reducible refine Kd.C_drewN ?_ _) | (with_reducible refine Kd.C_drew ?_))); (case side2 => exact HC0.out); rintro e w8 ⟨rfl, hb⟩; have n0_ := Aside0.mk (below_step (by repeat (first | (with_reducible first | exact HB.out | apply below_alloc | apply pw_below_drewN | apply below_drew1) | exact HB.out)) hb); clear HB; have HB := n0_; clear n0_; (try clear hb); (try clear hb2); (try clear hk); (try clear hi))); try go_wp2_with (first | (go_at_call 26; (with_reducible refine (laws_deeds.calls k _ _ l0 false _ ?side1 ?side2 A3.out).mono ?_); (case side1 => repeat (first | exact (Kd.C_below HR0.out HB.out) | (with_reducible refine Kd.C_alloc ?_ _) | (with_reducible refine Kd.C_drewN ?_ _) | (with_reducible refine Kd.C_drew ?_))); (case side2 => exact HC0.out); rintro e w8 ⟨rfl, hb⟩; have n0_ := Aside0.mk (below_step (by repeat (first | (with_reducible first | exact HB.out | apply below_alloc | apply pw_below_drewN | apply below_drew1) | exact HB.out)) hb); clear HB; have HB := n0_; clear n0_; (try clear hb); (try clear hb2); (try clear hk); (try clear hi))))
   go_meet
   case rel => exact ⟨_, (true), (by first | rfl | (simp; done) | (simp [*]; done)), H', ⟨by first | omega | exact Nat.le_refl _⟩, ⟨by repeat (first | (with_reducible first | exact HB.out | apply below_alloc | apply pw_below_drewN | apply below_drew1) | exact HB.out)⟩⟩
 case rest =>
  clear HC2
  try clear c2
  try clear p2
  try clear c4
  obtain ⟨kq, x11_1, rfl, HA, HJ1, HB⟩ := hcut
  cases kq with
  | zero => exact absurd HA.out (by simp [laws_puts.j0])
  | succ kj1 =>
   have H := HA.out
   clear HA
   simp only [laws_puts.j0] at H
   by_cases c9 : x11_1 = true
   ·
    subst c9
    have H1 : (some false) = some r := by rw [if_pos rfl] at H; exact H
    clear H
    have H := H1
    clear H1
    obtain rfl := Option.some.inj H
    go_wp2
    repeat (go_quiet (fail); try go_wp2)
    go_ret
    exact ⟨by first | rfl | (simp [errW_none, errW_some] <;> rfl) | (simp [*, errW_none, errW_some] <;> rfl) | (simp [errW_none, errW_some]; generalize ByteArray.toList _ = l_; cases l_ <;> rfl), by repeat (first | (with_reducible first | exact HB.out | apply below_alloc | apply pw_below_drewN | apply below_drew1) | exact HB.out)⟩
   ·
    replace c9 := Bool.eq_false_iff.mpr c9
    subst c9
    have H1 : (laws_puts.l0 kj1 l0 0) = some r := by rw [if_neg (show ¬ (false = true) by decide)] at H; exact H
    clear H
    have H := H1
    clear H1
    have H' := Aside0.mk H
    clear H
    go_wp2
    repeat (go_quiet (fail); try go_wp2)
    go_loopg [3] kj1 (fun kq v3 w' => ∃ (x3_2 : Int), v3 = .int .i64 x3_2 ∧ Aside0 (laws_puts.l0 kq l0 x3_2 = some r) ∧ Aside0 (kq ≤ kj1) ∧ Aside0 (Below w.heap.size w w'))
    case atStart => exact ⟨(0), (by first | rfl | (simp; done) | (simp [*]; done)), H', ⟨Nat.le_refl _⟩, ⟨by repeat (first | (with_reducible first | exact HB.out | apply below_alloc | apply pw_below_drewN | apply below_drew1) | exact HB.out)⟩⟩
    case round =>
     clear H'
     try clear c2
     try clear p2
     try clear c4
     try clear c9
     try clear p2
     obtain ⟨x3_2, rfl, HA, HK2, HB⟩ := hrel
     cases gk with
     | zero => exact absurd HA.out (by simp [laws_puts.l0])
     | succ k2 =>
      have H := HA.out
      clear HA
      simp only [laws_puts.l0] at H
      by_cases c10 : x3_2 < (l0.length : Int)
      ·
       rw [if_pos c10] at H
       have c10b0 : decide (x3_2 < (l0.length : Int)) = true := decide_eq_true c10
       clear c10
       have HC11 := Aside0.mk H
       clear H
       go_upto_region 6 with (fail)
       repeat (go_quiet (fail); go_upto_region 6 with (fail))
       go_cut [32] (fun v32 wc => ∃ (kq : Nat) (x32_10 : Bool), v32 = .bool x32_10 ∧ Aside0 (laws_puts.j2 kq l0 x3_2 x32_10 = some r) ∧ Aside0 (kq ≤ k2) ∧ Aside0 (Below w.heap.size w wc))
       case first =>
        have H := HC11.out
        clear HC11
        by_cases c12 : 0 ≤ x3_2
        ·
         rw [if_pos c12] at H
         have c12b0 : decide (0 ≤ x3_2) = true := decide_eq_true c12
         clear c12
         (first | rw [c12b0] | (simp only [i64_w, i32_w]; rw [c12b0]) | skip)
         by_cases c13 : ((rd_T51 l0 x3_2).f0) = 0
         ·
          rw [if_pos c13] at H
          have c13b0 : (((rd_T51 l0 x3_2).f0) == 0) = true := beq_iff_eq.mpr c13
          have c13b1 : (((rd_T51 l0 x3_2).f0) != 0) = false := bne_eq_false_iff_eq.mpr c13
          clear c13
          replace H := Option.bind_eq_some_iff.mp H
          obtain ⟨t192, A140, H⟩ := H
          replace H : (laws_puts.j2 k2 l0 x3_2 (!t192)) = some r := H
          have A14 := Aside0.mk A140
          clear A140
          have H' := Aside0.mk H
          clear H
          have p190 : 0 ≤ (x3_2 : Int) := of_decide_eq_true (by first | (with_reducible assumption) | assumption)
          have q190 : x3_2 < (l0.length : Int) := of_decide_eq_true (by first | (with_reducible assumption) | assumption)
          obtain ⟨ad190, e190, hx190_0, hx190_1, hx190_2⟩ := at_T51 HR0.out x3_2 p190 q190
          cases e190
          replace hx190_0 := (HB.out.cell (World.block_lt_of_cell? w _ hx190_0)).trans hx190_0
          replace hx190_1 := (HB.out.cell (World.block_lt_of_cell? w _ hx190_1)).trans hx190_1
          replace hx190_2 := (HB.out.cell (World.block_lt_of_cell? w _ hx190_2)).trans hx190_2
          replace p190 := eq_true p190
          replace q190 := eq_true q190
          have p191 : 0 ≤ (x3_2 : Int) := of_decide_eq_true (by first | (with_reducible assumption) | assumption)
          have q191 : x3_2 < (l0.length : Int) := of_decide_eq_true (by first | (with_reducible assumption) | assumption)
          obtain ⟨ad191, e191, hx191_0, hx191_1, hx191_2⟩ := at_T51 HR0.out x3_2 p191 q191
          obtain rfl : ad190 = ad191 := (by injection e191)
          replace hx191_0 := (HB.out.cell (World.block_lt_of_cell? w _ hx191_0)).trans hx191_0
          replace hx191_1 := (HB.out.cell (World.block_lt_of_cell? w _ hx191_1)).trans hx191_1
          replace hx191_2 := (HB.out.cell (World.block_lt_of_cell? w _ hx191_2)).trans hx191_2
          replace p191 := eq_true p191
          replace q191 := eq_true q191
          go_wp2_with (first | (go_at_call 28; (with_reducible refine (spec_Valid.calls k2 ((rd_T51 l0 x3_2).f1) t192 _ A14.out).mono ?_); rintro e w15 ⟨rfl, hb⟩; have n0_ := Aside0.mk (below_step (by repeat (first | (with_reducible first | exact HB.out | apply below_alloc | apply pw_below_drewN | apply below_drew1) | exact HB.out)) hb); clear HB; have HB := n0_; clear n0_; (try clear hb); (try clear hb2); (try clear hk); (try clear hi)))
          repeat (go_quiet (first | (go_at_call 28; (with_reducible refine (spec_Valid.calls k2 ((rd_T51 l0 x3_2).f1) t192 _ A14.out).mono ?_); rintro e w15 ⟨rfl, hb⟩; have n0_ := Aside0.mk (below_step (by repeat (first | (with_reducible first | exact HB.out | apply below_alloc | apply pw_below_drewN | apply below_drew1) | exact HB.out)) hb); clear HB; have HB := n0_; clear n0_; (try clear hb); (try clear hb2); (try clear hk); (try clear hi))); try go_wp2_with (first | (go_at_call 28; (with_reducible refine (spec_Valid.calls k2 ((rd_T51 l0 x3_2).f1) t192 _ A14.out).mono ?_); rintro e w15 ⟨rfl, hb⟩; have n0_ := Aside0.mk (below_step (by repeat (first | (with_reducible first | exact HB.out | apply below_alloc | apply pw_below_drewN | apply below_drew1) | exact HB.out)) hb); clear HB; have HB := n0_; clear n0_; (try clear hb); (try clear hb2); (try clear hk); (try clear hi))))
          go_meet
          case rel => exact ⟨_, (!t192), (by first | rfl | (simp; done) | (simp [*]; done)), H', ⟨by have := HJ1.out; have := HK2.out; first | omega | exact Nat.le_refl _⟩, ⟨by repeat (first | (with_reducible first | exact HB.out | apply below_alloc | apply pw_below_drewN | apply below_drew1) | exact HB.out)⟩⟩
         ·
          rw [if_neg c13] at H
          have c13b0 : (((rd_T51 l0 x3_2).f0) == 0) = false := beq_eq_false_iff_ne.mpr c13
          have c13b1 : (((rd_T51 l0 x3_2).f0) != 0) = true := bne_iff_ne.mpr c13
          have H' := Aside0.mk H
          clear H
          have p190 : 0 ≤ (x3_2 : Int) := of_decide_eq_true (by first | (with_reducible assumption) | assumption)
          have q190 : x3_2 < (l0.length : Int) := of_decide_eq_true (by first | (with_reducible assumption) | assumption)
          obtain ⟨ad190, e190, hx190_0, hx190_1, hx190_2⟩ := at_T51 HR0.out x3_2 p190 q190
          cases e190
          replace hx190_0 := (HB.out.cell (World.block_lt_of_cell? w _ hx190_0)).trans hx190_0
          replace hx190_1 := (HB.out.cell (World.block_lt_of_cell? w _ hx190_1)).trans hx190_1
          replace hx190_2 := (HB.out.cell (World.block_lt_of_cell? w _ hx190_2)).trans hx190_2
          replace p190 := eq_true p190
          replace q190 := eq_true q190
          go_wp2
          repeat (go_quiet (fail); try go_wp2)
          go_meet
          case rel => exact ⟨_, (true), (by first | rfl | (simp; done) | (simp [*]; done)), H', ⟨by have := HJ1.out; have := HK2.out; first | omega | exact Nat.le_refl _⟩, ⟨by repeat (first | (with_reducible first | exact HB.out | apply below_alloc | apply pw_below_drewN | apply below_drew1) | exact HB.out)⟩⟩
        ·
         rw [if_neg c12] at H
         exact absurd H (by simp)
       case rest =>
        clear HC11
        try clear c1
        try clear p1
        try clear q1
        try clear hx1
        try clear c2
        try clear p2
        try clear c4
        try clear c9
        try clear c10
        try clear c10b0
        try clear c12
        try clear c12b0
        try clear c13
        try clear c13b0
        try clear c13b1
        try clear hx190_0
        try clear hx190_1
        try clear hx190_2
        try clear hx191_0
        try clear hx191_1
        try clear hx191_2
        try clear p190
        try clear p191
        try clear p2
        try clear q190
        try clear q191
        obtain ⟨kq, x32_10, rfl, HA, HJ10, HB⟩ := hcut
        cases kq with
        | zero => exact absurd HA.out (by simp [laws_puts.j2])
        | succ kj10 =>
         have H := HA.out
         clear HA
         simp only [laws_puts.j2] at H
         by_cases c16 : x32_10 = true
         ·
          subst c16
          have H1 : (some false) = some r := by rw [if_pos rfl] at H; exact H
          clear H
          have H := H1
          clear H1
          obtain rfl := Option.some.inj H
          go_wp2
          repeat (go_quiet (fail); try go_wp2)
          go_ret
          exact ⟨by first | rfl | (simp [errW_none, errW_some] <;> rfl) | (simp [*, errW_none, errW_some] <;> rfl) | (simp [errW_none, errW_some]; generalize ByteArray.toList _ = l_; cases l_ <;> rfl), by repeat (first | (with_reducible first | exact HB.out | apply below_alloc | apply pw_below_drewN | apply below_drew1) | exact HB.out)⟩
         ·
          replace c16 := Bool.eq_false_iff.mpr c16
          subst c16
          have H1 : (laws_puts.l1 kj10 l0 x3_2 0) = some r := by rw [if_neg (show ¬ (false = true) by decide)] at H; exact H
          clear H
          have H := H1
          clear H1
          have H' := Aside0.mk H
          clear H
          go_wp2
          repeat (go_quiet (fail); try go_wp2)
          go_loopg [4] kj10 (fun kq v4 w' => ∃ (x4_4 : Int), v4 = .int .i64 x4_4 ∧ Aside0 (laws_puts.l1 kq l0 x3_2 x4_4 = some r) ∧ Aside0 (kq ≤ kj10) ∧ Aside0 (Below w.heap.size w w'))
          case atStart => exact ⟨(0), (by first | rfl | (simp; done) | (simp [*]; done)), H', ⟨Nat.le_refl _⟩, ⟨by repeat (first | (with_reducible first | exact HB.out | apply below_alloc | apply pw_below_drewN | apply below_drew1) | exact HB.out)⟩⟩
          case round =>
           clear H'
           try clear c1
           try clear p1
           try clear q1
           try clear hx1
           try clear c2
           try clear p2
           try clear c4
           try clear c9
           try clear c10
           try clear c10b0
           try clear c12
           try clear c12b0
           try clear c13
           try clear c13b0
           try clear c13b1
           try clear c16
           try clear hx190_0
           try clear hx190_1
           try clear hx190_2
           try clear hx191_0
           try clear hx191_1
           try clear hx191_2
           try clear p1
           try clear p190
           try clear p191
           try clear p2
           try clear q1
           try clear q190
           try clear q191
           obtain ⟨x4_4, rfl, HA, HK4, HB⟩ := hrel
           cases gk with
           | zero => exact absurd HA.out (by simp [laws_puts.l1])
           | succ k4 =>
            have H := HA.out
            clear HA
            simp only [laws_puts.l1] at H
            by_cases c17 : x4_4 < x3_2
            ·
             rw [if_pos c17] at H
             have c17b0 : decide (x4_4 < x3_2) = true := decide_eq_true c17
             clear c17
             by_cases c18 : 0 ≤ x4_4
             ·
              rw [if_pos c18] at H
              have c18b0 : decide (0 ≤ x4_4) = true := decide_eq_true c18
              clear c18
              by_cases c19 : x4_4 < (l0.length : Int)
              ·
               rw [if_pos c19] at H
               have c19b0 : decide (x4_4 < (l0.length : Int)) = true := decide_eq_true c19
               clear c19
               by_cases c20 : 0 ≤ x3_2
               ·
                rw [if_pos c20] at H
                have c20b0 : decide (0 ≤ x3_2) = true := decide_eq_true c20
                clear c20
                by_cases c21 : x3_2 < (l0.length : Int)
                ·
                 rw [if_pos c21] at H
                 have c21b0 : decide (x3_2 < (l0.length : Int)) = true := decide_eq_true c21
                 clear c21
                 by_cases c22 : ((rd_T51 l0 x4_4).f2) = ((rd_T51 l0 x3_2).f2)
                 ·
                  rw [if_pos c22] at H
                  have c22b0 : (((rd_T51 l0 x4_4).f2) == ((rd_T51 l0 x3_2).f2)) = true := beq_iff_eq.mpr c22
                  have c22b1 : (((rd_T51 l0 x4_4).f2) != ((rd_T51 l0 x3_2).f2)) = false := bne_eq_false_iff_eq.mpr c22
                  clear c22
                  obtain rfl := Option.some.inj H
                  have p193 : 0 ≤ (x4_4 : Int) := of_decide_eq_true (by first | (with_reducible assumption) | assumption)
                  have q193 : x4_4 < (l0.length : Int) := of_decide_eq_true (by first | (with_reducible assumption) | assumption)
                  obtain ⟨ad193, e193, hx193_0, hx193_1, hx193_2⟩ := at_T51 HR0.out x4_4 p193 q193
                  cases e193
                  replace hx193_0 := (HB.out.cell (World.block_lt_of_cell? w _ hx193_0)).trans hx193_0
                  replace hx193_1 := (HB.out.cell (World.block_lt_of_cell? w _ hx193_1)).trans hx193_1
                  replace hx193_2 := (HB.out.cell (World.block_lt_of_cell? w _ hx193_2)).trans hx193_2
                  replace p193 := eq_true p193
                  replace q193 := eq_true q193
                  have p194 : 0 ≤ (x3_2 : Int) := of_decide_eq_true (by first | (with_reducible assumption) | assumption)
                  have q194 : x3_2 < (l0.length : Int) := of_decide_eq_true (by first | (with_reducible assumption) | assumption)
                  obtain ⟨ad194, e194, hx194_0, hx194_1, hx194_2⟩ := at_T51 HR0.out x3_2 p194 q194
                  obtain rfl : ad193 = ad194 := (by injection e194)
                  replace hx194_0 := (HB.out.cell (World.block_lt_of_cell? w _ hx194_0)).trans hx194_0
                  replace hx194_1 := (HB.out.cell (World.block_lt_of_cell? w _ hx194_1)).trans hx194_1
                  replace hx194_2 := (HB.out.cell (World.block_lt_of_cell? w _ hx194_2)).trans hx194_2
                  replace p194 := eq_true p194
                  replace q194 := eq_true q194
                  go_wp2
                  repeat (go_quiet (fail); try go_wp2)
                  go_ret
                  exact ⟨by first | rfl | (simp [errW_none, errW_some] <;> rfl) | (simp [*, errW_none, errW_some] <;> rfl) | (simp [errW_none, errW_some]; generalize ByteArray.toList _ = l_; cases l_ <;> rfl), by repeat (first | (with_reducible first | exact HB.out | apply below_alloc | apply pw_below_drewN | apply below_drew1) | exact HB.out)⟩
                 ·
                  rw [if_neg c22] at H
                  have c22b0 : (((rd_T51 l0 x4_4).f2) == ((rd_T51 l0 x3_2).f2)) = false := beq_eq_false_iff_ne.mpr c22
                  have c22b1 : (((rd_T51 l0 x4_4).f2) != ((rd_T51 l0 x3_2).f2)) = true := bne_iff_ne.mpr c22
                  have H' := Aside0.mk H
                  clear H
                  have p193 : 0 ≤ (x4_4 : Int) := of_decide_eq_true (by first | (with_reducible assumption) | assumption)
                  have q193 : x4_4 < (l0.length : Int) := of_decide_eq_true (by first | (with_reducible assumption) | assumption)
                  obtain ⟨ad193, e193, hx193_0, hx193_1, hx193_2⟩ := at_T51 HR0.out x4_4 p193 q193
                  cases e193
                  replace hx193_0 := (HB.out.cell (World.block_lt_of_cell? w _ hx193_0)).trans hx193_0
                  replace hx193_1 := (HB.out.cell (World.block_lt_of_cell? w _ hx193_1)).trans hx193_1
                  replace hx193_2 := (HB.out.cell (World.block_lt_of_cell? w _ hx193_2)).trans hx193_2
                  replace p193 := eq_true p193
                  replace q193 := eq_true q193
                  have p194 : 0 ≤ (x3_2 : Int) := of_decide_eq_true (by first | (with_reducible assumption) | assumption)
                  have q194 : x3_2 < (l0.length : Int) := of_decide_eq_true (by first | (with_reducible assumption) | assumption)
                  obtain ⟨ad194, e194, hx194_0, hx194_1, hx194_2⟩ := at_T51 HR0.out x3_2 p194 q194
                  obtain rfl : ad193 = ad194 := (by injection e194)
                  replace hx194_0 := (HB.out.cell (World.block_lt_of_cell? w _ hx194_0)).trans hx194_0
                  replace hx194_1 := (HB.out.cell (World.block_lt_of_cell? w _ hx194_1)).trans hx194_1
                  replace hx194_2 := (HB.out.cell (World.block_lt_of_cell? w _ hx194_2)).trans hx194_2
                  replace p194 := eq_true p194
                  replace q194 := eq_true q194
                  go_wp2
                  repeat (go_quiet (fail); try go_wp2)
                  go_roundg k4
                  case measure => have := HJ1.out; have := HK2.out; have := HJ10.out; have := HK4.out; omega
                  case rel => exact ⟨(wrap64 (x4_4 + 1)), (by first | rfl | (simp; done) | (simp [*]; done)), H', ⟨by have := HJ1.out; have := HK2.out; have := HJ10.out; have := HK4.out; omega⟩, ⟨by repeat (first | (with_reducible first | exact HB.out | apply below_alloc | apply pw_below_drewN | apply below_drew1) | exact HB.out)⟩⟩
                ·
                 rw [if_neg c21] at H
                 exact absurd H (by simp)
               ·
                rw [if_neg c20] at H
                exact absurd H (by simp)
              ·
               rw [if_neg c19] at H
               exact absurd H (by simp)
             ·
              rw [if_neg c18] at H
              exact absurd H (by simp)
            ·
             rw [if_neg c17] at H
             have c17b0 : decide (x4_4 < x3_2) = false := decide_eq_false c17
             clear c17
             have H' := Aside0.mk H
             clear H
             go_wp2
             repeat (go_quiet (fail); try go_wp2)
             go_roundg k4
             case measure => have := HJ1.out; have := HK2.out; have := HJ10.out; have := HK4.out; omega
             case rel => exact ⟨(wrap64 (x3_2 + 1)), (by first | rfl | (simp; done) | (simp [*]; done)), H', ⟨by have := HJ1.out; have := HK2.out; have := HJ10.out; have := HK4.out; omega⟩, ⟨by repeat (first | (with_reducible first | exact HB.out | apply below_alloc | apply pw_below_drewN | apply below_drew1) | exact HB.out)⟩⟩
      ·
       rw [if_neg c10] at H
       have c10b0 : decide (x3_2 < (l0.length : Int)) = false := decide_eq_false c10
       clear c10
       obtain rfl := Option.some.inj H
       go_wp2
       repeat (go_quiet (fail); try go_wp2)
       go_ret
       exact ⟨by first | rfl | (simp [errW_none, errW_some] <;> rfl) | (simp [*, errW_none, errW_some] <;> rfl) | (simp [errW_none, errW_some]; generalize ByteArray.toList _ = l_; cases l_ <;> rfl), by repeat (first | (with_reducible first | exact HB.out | apply below_alloc | apply pw_below_drewN | apply below_drew1) | exact HB.out)⟩

end Go.Proofs.YtcnbnljlopopkaaDoor.PFnListTurned

-- thin
