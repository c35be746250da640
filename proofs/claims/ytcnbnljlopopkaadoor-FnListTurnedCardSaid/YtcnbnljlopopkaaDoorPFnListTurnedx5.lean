-- Written by hprint.py (this session's program, over the kit's printing program, with this session's own contracts in it). Not trusted: Lean checks it.
import Derived.Test.YtcnbnljlopopkaaDoorPFnListTurnedx0
import Derived.Test.YtcnbnljlopopkaaDoorPFnListTurnedx2
namespace Go.Proofs.YtcnbnljlopopkaaDoor.PFnListTurned
open Go.RowKit Go.Proofs.YtcnbnljlopopkaaDoorW.PrintWords Go.Proofs.YtcnbnljlopopkaaDoorW.PrintLast Go.Proofs.YtcnbnljlopopkaaDoorW.PrintMore
attribute [local go_sem] max2_int min2_int max_two min_two max_three min_three max_four min_four   -- for this text's walks alone
set_option linter.unusedVariables false
set_option linter.unusedSimpArgs false

/-! ### laws_deeds: function 26 -/
def laws_deeds.l0 : Nat → List (S51) → Int → Option (Bool)
 | 0, _, _ => none
 | k + 1, x0, x3 => if x3 < (x0.length : Int) then (if 0 ≤ x3 then (if ((rd_T51 x0 x3).f0) < 0 then (some false) else (if ((rd_T51 x0 x3).f0) > 1 then (some false) else (if (((rd_T51 x0 x3).f1).size : Int) > 80 then (some false) else ((laws_clean.f k ((rd_T51 x0 x3).f1)).bind fun t169 => (if t169 = true then ((laws_tame.f k ((rd_T51 x0 x3).f1)).bind fun t171 => (if t171 = true then (laws_deeds.l0 k x0 (wrap64 (x3 + 1))) else (some false))) else (some false)))))) else (none)) else (some true)
def laws_deeds.f (k : Nat) (l0 : List (S51)) : Option (Bool) := if (l0.length : Int) > 40 then (some false) else (laws_deeds.l0 k l0 0)
theorem laws_deeds.mono_l : ∀ k, (∀ y0 y1, LeO (laws_deeds.l0 k y0 y1) (laws_deeds.l0 (k + 1) y0 y1))
 | 0 => fun _ _ r h => by simp [laws_deeds.l0] at h
 | k + 1 => by
  have ih0 := laws_deeds.mono_l k
  ·
   intro y0 y1
   unfold laws_deeds.l0
   repeat' first
   | (with_reducible exact ih0 _ _)
   | (with_reducible exact laws_clean.mono _ _)
   | (with_reducible exact laws_tame.mono _ _)
   | (with_reducible exact LeO.refl _)
   | (with_reducible exact LeO.none _)
   | (with_reducible refine LeO.ite ?_ ?_)
   | (with_reducible refine LeO.bind ?_ (fun _ => ?_))
   | exact ih0 _ _
   | exact laws_clean.mono _ _
   | exact laws_tame.mono _ _
   | exact LeO.none _
   | refine LeO.ite ?_ ?_
   | refine LeO.bind ?_ (fun _ => ?_)
theorem laws_deeds.mono : ∀ a0 k, LeO (laws_deeds.f k a0) (laws_deeds.f (k + 1) a0) := by
 intro a0 k
 have ih0 := laws_deeds.mono_l k
 unfold laws_deeds.f
 repeat' first
   | (with_reducible exact ih0 _ _)
   | (with_reducible exact laws_clean.mono _ _)
   | (with_reducible exact laws_tame.mono _ _)
   | (with_reducible exact LeO.refl _)
   | (with_reducible exact LeO.none _)
   | (with_reducible refine LeO.ite ?_ ?_)
   | (with_reducible refine LeO.bind ?_ (fun _ => ?_))
   | exact ih0 _ _
   | exact laws_clean.mono _ _
   | exact laws_tame.mono _ _
   | exact LeO.none _
   | refine LeO.ite ?_ ?_
   | refine LeO.bind ?_ (fun _ => ?_)
set_option maxHeartbeats 8000000 in
set_option maxRecDepth 100000 in
theorem laws_deeds.calls (k : Nat) (A0 : Option Addr) (c0 : Nat) (l0 : List (S51)) (r : Bool) (w : World) (hr0 : Kd.C k51 w A0 l0.length l0) (hc0 : l0.length ≤ c0) (h : laws_deeds.f k l0 = some r) :
  Calls Tryd.prog 26 #[.slice A0 l0.length c0] w fun e w' => e = .returned (.bool r) ∧ Below w.heap.size w w' := by
 have HR0 := Aside0.mk hr0
 have HC0 := Aside0.mk hc0
 clear hr0 hc0
 have HB := Aside0.mk (Below.refl w.heap.size w)
 have H : (if (l0.length : Int) > 40 then (some false) else (laws_deeds.l0 k l0 0)) = some r := h
 clear h
 by_cases c2 : (l0.length : Int) > 40
 ·
  rw [if_pos c2] at H
  have c2b0 : decide (40 < (l0.length : Int)) = true := decide_eq_true c2
  have c2b1 : decide (40 < l0.length) = true := decide_eq_true (by omega)
  clear c2
  obtain rfl := Option.some.inj H
  go_enter Tryd.func26, Tryd.ntmps26
  go_wp2
  go_ret
  exact ⟨by first | rfl | (simp [errW_none, errW_some] <;> rfl) | (simp [*, errW_none, errW_some] <;> rfl) | (simp [errW_none, errW_some]; generalize ByteArray.toList _ = l_; cases l_ <;> rfl), by repeat (first | (with_reducible first | exact HB.out | apply below_alloc | apply pw_below_drewN | apply below_drew1) | exact HB.out)⟩
 ·
  rw [if_neg c2] at H
  have c2b0 : decide (40 < (l0.length : Int)) = false := decide_eq_false c2
  have c2b1 : decide (40 < l0.length) = false := decide_eq_false (by omega)
  clear c2
  have H' := Aside0.mk H
  clear H
  go_enter Tryd.func26, Tryd.ntmps26
  go_wp2
  go_loopg [3] k (fun kq v3 w' => ∃ (x3_1 : Int), v3 = .int .i64 x3_1 ∧ Aside0 (laws_deeds.l0 kq l0 x3_1 = some r) ∧ Aside0 (kq ≤ k) ∧ Aside0 (Below w.heap.size w w'))
  case atStart => exact ⟨(0), (by first | rfl | (simp; done) | (simp [*]; done)), H', ⟨Nat.le_refl _⟩, ⟨by repeat (first | (with_reducible first | exact HB.out | apply below_alloc | apply pw_below_drewN | apply below_drew1) | exact HB.out)⟩⟩
  case round =>
   clear H'
   try clear c2
   try clear c2b0
   try clear c2b1
   try clear p2
   obtain ⟨x3_1, rfl, HA, HK1, HB⟩ := hrel
   cases gk with
   | zero => exact absurd HA.out (by simp [laws_deeds.l0])
   | succ k1 =>
    have H := HA.out
    clear HA
    simp only [laws_deeds.l0] at H
    by_cases c3 : x3_1 < (l0.length : Int)
    ·
     rw [if_pos c3] at H
     have c3b0 : decide (x3_1 < (l0.length : Int)) = true := decide_eq_true c3
     clear c3
     by_cases c4 : 0 ≤ x3_1
     ·
      rw [if_pos c4] at H
      have c4b0 : decide (0 ≤ x3_1) = true := decide_eq_true c4
      clear c4
      by_cases c5 : ((rd_T51 l0 x3_1).f0) < 0
      ·
       rw [if_pos c5] at H
       have c5b0 : decide (((rd_T51 l0 x3_1).f0) < 0) = true := decide_eq_true c5
       clear c5
       obtain rfl := Option.some.inj H
       have p165 : 0 ≤ (x3_1 : Int) := of_decide_eq_true (by first | (with_reducible assumption) | assumption)
       have q165 : x3_1 < (l0.length : Int) := of_decide_eq_true (by first | (with_reducible assumption) | assumption)
       obtain ⟨ad165, e165, hx165_0, hx165_1, hx165_2⟩ := at_T51 HR0.out x3_1 p165 q165
       cases e165
       replace hx165_0 := (HB.out.cell (World.block_lt_of_cell? w _ hx165_0)).trans hx165_0
       replace hx165_1 := (HB.out.cell (World.block_lt_of_cell? w _ hx165_1)).trans hx165_1
       replace hx165_2 := (HB.out.cell (World.block_lt_of_cell? w _ hx165_2)).trans hx165_2
       replace p165 := eq_true p165
       replace q165 := eq_true q165
       go_wp2
       go_ret
       exact ⟨by first | rfl | (simp [errW_none, errW_some] <;> rfl) | (simp [*, errW_none, errW_some] <;> rfl) | (simp [errW_none, errW_some]; generalize ByteArray.toList _ = l_; cases l_ <;> rfl), by repeat (first | (with_reducible first | exact HB.out | apply below_alloc | apply pw_below_drewN | apply below_drew1) | exact HB.out)⟩
      ·
       rw [if_neg c5] at H
       have c5b0 : decide (((rd_T51 l0 x3_1).f0) < 0) = false := decide_eq_false c5
       clear c5
       by_cases c6 : ((rd_T51 l0 x3_1).f0) > 1
       ·
        rw [if_pos c6] at H
        have c6b0 : decide (1 < ((rd_T51 l0 x3_1).f0)) = true := decide_eq_true c6
        clear c6
        obtain rfl := Option.some.inj H
        have p165 : 0 ≤ (x3_1 : Int) := of_decide_eq_true (by first | (with_reducible assumption) | assumption)
        have q165 : x3_1 < (l0.length : Int) := of_decide_eq_true (by first | (with_reducible assumption) | assumption)
        obtain ⟨ad165, e165, hx165_0, hx165_1, hx165_2⟩ := at_T51 HR0.out x3_1 p165 q165
        cases e165
        replace hx165_0 := (HB.out.cell (World.block_lt_of_cell? w _ hx165_0)).trans hx165_0
        replace hx165_1 := (HB.out.cell (World.block_lt_of_cell? w _ hx165_1)).trans hx165_1
        replace hx165_2 := (HB.out.cell (World.block_lt_of_cell? w _ hx165_2)).trans hx165_2
        replace p165 := eq_true p165
        replace q165 := eq_true q165
        have p166 : 0 ≤ (x3_1 : Int) := of_decide_eq_true (by first | (with_reducible assumption) | assumption)
        have q166 : x3_1 < (l0.length : Int) := of_decide_eq_true (by first | (with_reducible assumption) | assumption)
        obtain ⟨ad166, e166, hx166_0, hx166_1, hx166_2⟩ := at_T51 HR0.out x3_1 p166 q166
        obtain rfl : ad165 = ad166 := (by injection e166)
        replace hx166_0 := (HB.out.cell (World.block_lt_of_cell? w _ hx166_0)).trans hx166_0
        replace hx166_1 := (HB.out.cell (World.block_lt_of_cell? w _ hx166_1)).trans hx166_1
        replace hx166_2 := (HB.out.cell (World.block_lt_of_cell? w _ hx166_2)).trans hx166_2
        replace p166 := eq_true p166
        replace q166 := eq_true q166
        go_wp2
        go_ret
        exact ⟨by first | rfl | (simp [errW_none, errW_some] <;> rfl) | (simp [*, errW_none, errW_some] <;> rfl) | (simp [errW_none, errW_some]; generalize ByteArray.toList _ = l_; cases l_ <;> rfl), by repeat (first | (with_reducible first | exact HB.out | apply below_alloc | apply pw_below_drewN | apply below_drew1) | exact HB.out)⟩
       ·
        rw [if_neg c6] at H
        have c6b0 : decide (1 < ((rd_T51 l0 x3_1).f0)) = false := decide_eq_false c6
        clear c6
        by_cases c7 : (((rd_T51 l0 x3_1).f1).size : Int) > 80
        ·
         rw [if_pos c7] at H
         have c7b0 : decide (80 < (((rd_T51 l0 x3_1).f1).size : Int)) = true := decide_eq_true c7
         have c7b1 : decide (80 < ((rd_T51 l0 x3_1).f1).size) = true := decide_eq_true (by omega)
         clear c7
         obtain rfl := Option.some.inj H
         have p165 : 0 ≤ (x3_1 : Int) := of_decide_eq_true (by first | (with_reducible assumption) | assumption)
         have q165 : x3_1 < (l0.length : Int) := of_decide_eq_true (by first | (with_reducible assumption) | assumption)
         obtain ⟨ad165, e165, hx165_0, hx165_1, hx165_2⟩ := at_T51 HR0.out x3_1 p165 q165
         cases e165
         replace hx165_0 := (HB.out.cell (World.block_lt_of_cell? w _ hx165_0)).trans hx165_0
         replace hx165_1 := (HB.out.cell (World.block_lt_of_cell? w _ hx165_1)).trans hx165_1
         replace hx165_2 := (HB.out.cell (World.block_lt_of_cell? w _ hx165_2)).trans hx165_2
         replace p165 := eq_true p165
         replace q165 := eq_true q165
         have p166 : 0 ≤ (x3_1 : Int) := of_decide_eq_true (by first | (with_reducible assumption) | assumption)
         have q166 : x3_1 < (l0.length : Int) := of_decide_eq_true (by first | (with_reducible assumption) | assumption)
         obtain ⟨ad166, e166, hx166_0, hx166_1, hx166_2⟩ := at_T51 HR0.out x3_1 p166 q166
         obtain rfl : ad165 = ad166 := (by injection e166)
         replace hx166_0 := (HB.out.cell (World.block_lt_of_cell? w _ hx166_0)).trans hx166_0
         replace hx166_1 := (HB.out.cell (World.block_lt_of_cell? w _ hx166_1)).trans hx166_1
         replace hx166_2 := (HB.out.cell (World.block_lt_of_cell? w _ hx166_2)).trans hx166_2
         replace p166 := eq_true p166
         replace q166 := eq_true q166
         have p167 : 0 ≤ (x3_1 : Int) := of_decide_eq_true (by first | (with_reducible assumption) | assumption)
         have q167 : x3_1 < (l0.length : Int) := of_decide_eq_true (by first | (with_reducible assumption) | assumption)
         obtain ⟨ad167, e167, hx167_0, hx167_1, hx167_2⟩ := at_T51 HR0.out x3_1 p167 q167
         obtain rfl : ad165 = ad167 := (by injection e167)
         replace hx167_0 := (HB.out.cell (World.block_lt_of_cell? w _ hx167_0)).trans hx167_0
         replace hx167_1 := (HB.out.cell (World.block_lt_of_cell? w _ hx167_1)).trans hx167_1
         replace hx167_2 := (HB.out.cell (World.block_lt_of_cell? w _ hx167_2)).trans hx167_2
         replace p167 := eq_true p167
         replace q167 := eq_true q167
         go_wp2
         go_ret
         exact ⟨by first | rfl | (simp [errW_none, errW_some] <;> rfl) | (simp [*, errW_none, errW_some] <;> rfl) | (simp [errW_none, errW_some]; generalize ByteArray.toList _ = l_; cases l_ <;> rfl), by repeat (first | (with_reducible first | exact HB.out | apply below_alloc | apply pw_below_drewN | apply below_drew1) | exact HB.out)⟩
        ·
         rw [if_neg c7] at H
         have c7b0 : decide (80 < (((rd_T51 l0 x3_1).f1).size : Int)) = false := decide_eq_false c7
         have c7b1 : decide (80 < ((rd_T51 l0 x3_1).f1).size) = false := decide_eq_false (by omega)
         clear c7
         replace H := Option.bind_eq_some_iff.mp H
         obtain ⟨t169, A80, H⟩ := H
         replace H : (if t169 = true then ((laws_tame.f k1 ((rd_T51 l0 x3_1).f1)).bind fun t171 => (if t171 = true then (laws_deeds.l0 k1 l0 (wrap64 (x3_1 + 1))) else (some false))) else (some false)) = some r := H
         have A8 := Aside0.mk A80
         clear A80
         by_cases c9 : t169 = true
         ·
          subst c9
          have H1 : ((laws_tame.f k1 ((rd_T51 l0 x3_1).f1)).bind fun t171 => (if t171 = true then (laws_deeds.l0 k1 l0 (wrap64 (x3_1 + 1))) else (some false))) = some r := by rw [if_pos rfl] at H; exact H
          clear H
          have H := H1
          clear H1
          replace H := Option.bind_eq_some_iff.mp H
          obtain ⟨t171, A100, H⟩ := H
          replace H : (if t171 = true then (laws_deeds.l0 k1 l0 (wrap64 (x3_1 + 1))) else (some false)) = some r := H
          have A10 := Aside0.mk A100
          clear A100
          by_cases c11 : t171 = true
          ·
           subst c11
           have H1 : (laws_deeds.l0 k1 l0 (wrap64 (x3_1 + 1))) = some r := by rw [if_pos rfl] at H; exact H
           clear H
           have H := H1
           clear H1
           have H' := Aside0.mk H
           clear H
           have p165 : 0 ≤ (x3_1 : Int) := of_decide_eq_true (by first | (with_reducible assumption) | assumption)
           have q165 : x3_1 < (l0.length : Int) := of_decide_eq_true (by first | (with_reducible assumption) | assumption)
           obtain ⟨ad165, e165, hx165_0, hx165_1, hx165_2⟩ := at_T51 HR0.out x3_1 p165 q165
           cases e165
           replace hx165_0 := (HB.out.cell (World.block_lt_of_cell? w _ hx165_0)).trans hx165_0
           replace hx165_1 := (HB.out.cell (World.block_lt_of_cell? w _ hx165_1)).trans hx165_1
           replace hx165_2 := (HB.out.cell (World.block_lt_of_cell? w _ hx165_2)).trans hx165_2
           replace p165 := eq_true p165
           replace q165 := eq_true q165
           have p166 : 0 ≤ (x3_1 : Int) := of_decide_eq_true (by first | (with_reducible assumption) | assumption)
           have q166 : x3_1 < (l0.length : Int) := of_decide_eq_true (by first | (with_reducible assumption) | assumption)
           obtain ⟨ad166, e166, hx166_0, hx166_1, hx166_2⟩ := at_T51 HR0.out x3_1 p166 q166
           obtain rfl : ad165 = ad166 := (by injection e166)
           replace hx166_0 := (HB.out.cell (World.block_lt_of_cell? w _ hx166_0)).trans hx166_0
           replace hx166_1 := (HB.out.cell (World.block_lt_of_cell? w _ hx166_1)).trans hx166_1
           replace hx166_2 := (HB.out.cell (World.block_lt_of_cell? w _ hx166_2)).trans hx166_2
           replace p166 := eq_true p166
           replace q166 := eq_true q166
           have p167 : 0 ≤ (x3_1 : Int) := of_decide_eq_true (by first | (with_reducible assumption) | assumption)
           have q167 : x3_1 < (l0.length : Int) := of_decide_eq_true (by first | (with_reducible assumption) | assumption)
           obtain ⟨ad167, e167, hx167_0, hx167_1, hx167_2⟩ := at_T51 HR0.out x3_1 p167 q167
           obtain rfl : ad165 = ad167 := (by injection e167)
           replace hx167_0 := (HB.out.cell (World.block_lt_of_cell? w _ hx167_0)).trans hx167_0
           replace hx167_1 := (HB.out.cell (World.block_lt_of_cell? w _ hx167_1)).trans hx167_1
           replace hx167_2 := (HB.out.cell (World.block_lt_of_cell? w _ hx167_2)).trans hx167_2
           replace p167 := eq_true p167
           replace q167 := eq_true q167
           have p168 : 0 ≤ (x3_1 : Int) := of_decide_eq_true (by first | (with_reducible assumption) | assumption)
           have q168 : x3_1 < (l0.length : Int) := of_decide_eq_true (by first | (with_reducible assumption) | assumption)
           obtain ⟨ad168, e168, hx168_0, hx168_1, hx168_2⟩ := at_T51 HR0.out x3_1 p168 q168
           obtain rfl : ad165 = ad168 := (by injection e168)
           replace hx168_0 := (HB.out.cell (World.block_lt_of_cell? w _ hx168_0)).trans hx168_0
           replace hx168_1 := (HB.out.cell (World.block_lt_of_cell? w _ hx168_1)).trans hx168_1
           replace hx168_2 := (HB.out.cell (World.block_lt_of_cell? w _ hx168_2)).trans hx168_2
           replace p168 := eq_true p168
           replace q168 := eq_true q168
           go_wp2_with (first | (go_at_call 42; (with_reducible refine (laws_clean.calls k1 ((rd_T51 l0 x3_1).f1) true _ A8.out).mono ?_); rintro e w' ⟨rfl, ⟨nd, rfl⟩⟩; have p170 : 0 ≤ (x3_1 : Int) := of_decide_eq_true (by first | (with_reducible assumption) | assumption); have q170 : x3_1 < (l0.length : Int) := of_decide_eq_true (by first | (with_reducible assumption) | assumption); obtain ⟨ad170, e170, hx170_0, hx170_1, hx170_2⟩ := at_T51 HR0.out x3_1 p170 q170; obtain rfl : ad165 = ad170 := (by injection e170); replace hx170_0 := (HB.out.cell (World.block_lt_of_cell? w _ hx170_0)).trans hx170_0; replace hx170_1 := (HB.out.cell (World.block_lt_of_cell? w _ hx170_1)).trans hx170_1; replace hx170_2 := (HB.out.cell (World.block_lt_of_cell? w _ hx170_2)).trans hx170_2; replace p170 := eq_true p170; replace q170 := eq_true q170) | (go_at_call 43; (with_reducible refine (laws_tame.calls k1 ((rd_T51 l0 x3_1).f1) true _ A10.out).mono ?_); rintro e w12 ⟨rfl, hb⟩; have n0_ := Aside0.mk (below_step (by repeat (first | (with_reducible first | exact HB.out | apply below_alloc | apply pw_below_drewN | apply below_drew1) | exact HB.out)) hb); clear HB; have HB := n0_; clear n0_; (try clear hb); (try clear hb2); (try clear hk); (try clear hi)))
           go_roundg k1
           case measure => have := HK1.out; omega
           case rel => exact ⟨(wrap64 (x3_1 + 1)), (by first | rfl | (simp; done) | (simp [*]; done)), H', ⟨by have := HK1.out; omega⟩, ⟨by repeat (first | (with_reducible first | exact HB.out | apply below_alloc | apply pw_below_drewN | apply below_drew1) | exact HB.out)⟩⟩
          ·
           replace c11 := Bool.eq_false_iff.mpr c11
           subst c11
           have H1 : (some false) = some r := by rw [if_neg (show ¬ (false = true) by decide)] at H; exact H
           clear H
           have H := H1
           clear H1
           obtain rfl := Option.some.inj H
           have p165 : 0 ≤ (x3_1 : Int) := of_decide_eq_true (by first | (with_reducible assumption) | assumption)
           have q165 : x3_1 < (l0.length : Int) := of_decide_eq_true (by first | (with_reducible assumption) | assumption)
           obtain ⟨ad165, e165, hx165_0, hx165_1, hx165_2⟩ := at_T51 HR0.out x3_1 p165 q165
           cases e165
           replace hx165_0 := (HB.out.cell (World.block_lt_of_cell? w _ hx165_0)).trans hx165_0
           replace hx165_1 := (HB.out.cell (World.block_lt_of_cell? w _ hx165_1)).trans hx165_1
           replace hx165_2 := (HB.out.cell (World.block_lt_of_cell? w _ hx165_2)).trans hx165_2
           replace p165 := eq_true p165
           replace q165 := eq_true q165
           have p166 : 0 ≤ (x3_1 : Int) := of_decide_eq_true (by first | (with_reducible assumption) | assumption)
           have q166 : x3_1 < (l0.length : Int) := of_decide_eq_true (by first | (with_reducible assumption) | assumption)
           obtain ⟨ad166, e166, hx166_0, hx166_1, hx166_2⟩ := at_T51 HR0.out x3_1 p166 q166
           obtain rfl : ad165 = ad166 := (by injection e166)
           replace hx166_0 := (HB.out.cell (World.block_lt_of_cell? w _ hx166_0)).trans hx166_0
           replace hx166_1 := (HB.out.cell (World.block_lt_of_cell? w _ hx166_1)).trans hx166_1
           replace hx166_2 := (HB.out.cell (World.block_lt_of_cell? w _ hx166_2)).trans hx166_2
           replace p166 := eq_true p166
           replace q166 := eq_true q166
           have p167 : 0 ≤ (x3_1 : Int) := of_decide_eq_true (by first | (with_reducible assumption) | assumption)
           have q167 : x3_1 < (l0.length : Int) := of_decide_eq_true (by first | (with_reducible assumption) | assumption)
           obtain ⟨ad167, e167, hx167_0, hx167_1, hx167_2⟩ := at_T51 HR0.out x3_1 p167 q167
           obtain rfl : ad165 = ad167 := (by injection e167)
           replace hx167_0 := (HB.out.cell (World.block_lt_of_cell? w _ hx167_0)).trans hx167_0
           replace hx167_1 := (HB.out.cell (World.block_lt_of_cell? w _ hx167_1)).trans hx167_1
           replace hx167_2 := (HB.out.cell (World.block_lt_of_cell? w _ hx167_2)).trans hx167_2
           replace p167 := eq_true p167
           replace q167 := eq_true q167
           have p168 : 0 ≤ (x3_1 : Int) := of_decide_eq_true (by first | (with_reducible assumption) | assumption)
           have q168 : x3_1 < (l0.length : Int) := of_decide_eq_true (by first | (with_reducible assumption) | assumption)
           obtain ⟨ad168, e168, hx168_0, hx168_1, hx168_2⟩ := at_T51 HR0.out x3_1 p168 q168
           obtain rfl : ad165 = ad168 := (by injection e168)
           replace hx168_0 := (HB.out.cell (World.block_lt_of_cell? w _ hx168_0)).trans hx168_0
           replace hx168_1 := (HB.out.cell (World.block_lt_of_cell? w _ hx168_1)).trans hx168_1
           replace hx168_2 := (HB.out.cell (World.block_lt_of_cell? w _ hx168_2)).trans hx168_2
           replace p168 := eq_true p168
           replace q168 := eq_true q168
           go_wp2_with (first | (go_at_call 42; (with_reducible refine (laws_clean.calls k1 ((rd_T51 l0 x3_1).f1) true _ A8.out).mono ?_); rintro e w' ⟨rfl, ⟨nd, rfl⟩⟩; have p170 : 0 ≤ (x3_1 : Int) := of_decide_eq_true (by first | (with_reducible assumption) | assumption); have q170 : x3_1 < (l0.length : Int) := of_decide_eq_true (by first | (with_reducible assumption) | assumption); obtain ⟨ad170, e170, hx170_0, hx170_1, hx170_2⟩ := at_T51 HR0.out x3_1 p170 q170; obtain rfl : ad165 = ad170 := (by injection e170); replace hx170_0 := (HB.out.cell (World.block_lt_of_cell? w _ hx170_0)).trans hx170_0; replace hx170_1 := (HB.out.cell (World.block_lt_of_cell? w _ hx170_1)).trans hx170_1; replace hx170_2 := (HB.out.cell (World.block_lt_of_cell? w _ hx170_2)).trans hx170_2; replace p170 := eq_true p170; replace q170 := eq_true q170) | (go_at_call 43; (with_reducible refine (laws_tame.calls k1 ((rd_T51 l0 x3_1).f1) false _ A10.out).mono ?_); rintro e w13 ⟨rfl, hb⟩; have n0_ := Aside0.mk (below_step (by repeat (first | (with_reducible first | exact HB.out | apply below_alloc | apply pw_below_drewN | apply below_drew1) | exact HB.out)) hb); clear HB; have HB := n0_; clear n0_; (try clear hb); (try clear hb2); (try clear hk); (try clear hi)))
           go_ret
           exact ⟨by first | rfl | (simp [errW_none, errW_some] <;> rfl) | (simp [*, errW_none, errW_some] <;> rfl) | (simp [errW_none, errW_some]; generalize ByteArray.toList _ = l_; cases l_ <;> rfl), by repeat (first | (with_reducible first | exact HB.out | apply below_alloc | apply pw_below_drewN | apply below_drew1) | exact HB.out)⟩
         ·
          replace c9 := Bool.eq_false_iff.mpr c9
          subst c9
          have H1 : (some false) = some r := by rw [if_neg (show ¬ (false = true) by decide)] at H; exact H
          clear H
          have H := H1
          clear H1
          obtain rfl := Option.some.inj H
          have p165 : 0 ≤ (x3_1 : Int) := of_decide_eq_true (by first | (with_reducible assumption) | assumption)
          have q165 : x3_1 < (l0.length : Int) := of_decide_eq_true (by first | (with_reducible assumption) | assumption)
          obtain ⟨ad165, e165, hx165_0, hx165_1, hx165_2⟩ := at_T51 HR0.out x3_1 p165 q165
          cases e165
          replace hx165_0 := (HB.out.cell (World.block_lt_of_cell? w _ hx165_0)).trans hx165_0
          replace hx165_1 := (HB.out.cell (World.block_lt_of_cell? w _ hx165_1)).trans hx165_1
          replace hx165_2 := (HB.out.cell (World.block_lt_of_cell? w _ hx165_2)).trans hx165_2
          replace p165 := eq_true p165
          replace q165 := eq_true q165
          have p166 : 0 ≤ (x3_1 : Int) := of_decide_eq_true (by first | (with_reducible assumption) | assumption)
          have q166 : x3_1 < (l0.length : Int) := of_decide_eq_true (by first | (with_reducible assumption) | assumption)
          obtain ⟨ad166, e166, hx166_0, hx166_1, hx166_2⟩ := at_T51 HR0.out x3_1 p166 q166
          obtain rfl : ad165 = ad166 := (by injection e166)
          replace hx166_0 := (HB.out.cell (World.block_lt_of_cell? w _ hx166_0)).trans hx166_0
          replace hx166_1 := (HB.out.cell (World.block_lt_of_cell? w _ hx166_1)).trans hx166_1
          replace hx166_2 := (HB.out.cell (World.block_lt_of_cell? w _ hx166_2)).trans hx166_2
          replace p166 := eq_true p166
          replace q166 := eq_true q166
          have p167 : 0 ≤ (x3_1 : Int) := of_decide_eq_true (by first | (with_reducible assumption) | assumption)
          have q167 : x3_1 < (l0.length : Int) := of_decide_eq_true (by first | (with_reducible assumption) | assumption)
          obtain ⟨ad167, e167, hx167_0, hx167_1, hx167_2⟩ := at_T51 HR0.out x3_1 p167 q167
          obtain rfl : ad165 = ad167 := (by injection e167)
          replace hx167_0 := (HB.out.cell (World.block_lt_of_cell? w _ hx167_0)).trans hx167_0
          replace hx167_1 := (HB.out.cell (World.block_lt_of_cell? w _ hx167_1)).trans hx167_1
          replace hx167_2 := (HB.out.cell (World.block_lt_of_cell? w _ hx167_2)).trans hx167_2
          replace p167 := eq_true p167
          replace q167 := eq_true q167
          have p168 : 0 ≤ (x3_1 : Int) := of_decide_eq_true (by first | (with_reducible assumption) | assumption)
          have q168 : x3_1 < (l0.length : Int) := of_decide_eq_true (by first | (with_reducible assumption) | assumption)
          obtain ⟨ad168, e168, hx168_0, hx168_1, hx168_2⟩ := at_T51 HR0.out x3_1 p168 q168
          obtain rfl : ad165 = ad168 := (by injection e168)
          replace hx168_0 := (HB.out.cell (World.block_lt_of_cell? w _ hx168_0)).trans hx168_0
          replace hx168_1 := (HB.out.cell (World.block_lt_of_cell? w _ hx168_1)).trans hx168_1
          replace hx168_2 := (HB.out.cell (World.block_lt_of_cell? w _ hx168_2)).trans hx168_2
          replace p168 := eq_true p168
          replace q168 := eq_true q168
          go_wp2_with (first | (go_at_call 42; (with_reducible refine (laws_clean.calls k1 ((rd_T51 l0 x3_1).f1) false _ A8.out).mono ?_); rintro e w' ⟨rfl, ⟨nd, rfl⟩⟩))
          go_ret
          exact ⟨by first | rfl | (simp [errW_none, errW_some] <;> rfl) | (simp [*, errW_none, errW_some] <;> rfl) | (simp [errW_none, errW_some]; generalize ByteArray.toList _ = l_; cases l_ <;> rfl), by repeat (first | (with_reducible first | exact HB.out | apply below_alloc | apply pw_below_drewN | apply below_drew1) | exact HB.out)⟩
     ·
      rw [if_neg c4] at H
      exact absurd H (by simp)
    ·
     rw [if_neg c3] at H
     have c3b0 : decide (x3_1 < (l0.length : Int)) = false := decide_eq_false c3
     clear c3
     obtain rfl := Option.some.inj H
     go_wp2
     go_ret
     exact ⟨by first | rfl | (simp [errW_none, errW_some] <;> rfl) | (simp [*, errW_none, errW_some] <;> rfl) | (simp [errW_none, errW_some]; generalize ByteArray.toList _ = l_; cases l_ <;> rfl), by repeat (first | (with_reducible first | exact HB.out | apply below_alloc | apply pw_below_drewN | apply below_drew1) | exact HB.out)⟩

/-! ### spec_place: function 44 -/
def spec_place.l0 : Nat → List (S31) → ByteArray → Int → Int → Option (Int)
 | 0, _, _, _, _ => none
 | k + 1, x0, x1, x2, x7 => if x7 < (x0.length : Int) then (if 0 ≤ x7 then (if ((rd_T31 x0 x7).f0).toList = x1.toList then (if ((rd_T31 x0 x7).f1) = x2 then (some x7) else (spec_place.l0 k x0 x1 x2 (wrap64 (x7 + 1)))) else (spec_place.l0 k x0 x1 x2 (wrap64 (x7 + 1)))) else (none)) else (some (-1))
def spec_place.f (k : Nat) (l0 : List (S31)) (a1 : ByteArray) (a2 : Int) : Option (Int) := spec_place.l0 k l0 a1 a2 0
theorem spec_place.mono_l : ∀ k, (∀ y0 y1 y2 y3, LeO (spec_place.l0 k y0 y1 y2 y3) (spec_place.l0 (k + 1) y0 y1 y2 y3))
 | 0 => fun _ _ _ _ r h => by simp [spec_place.l0] at h
 | k + 1 => by
  have ih0 := spec_place.mono_l k
  ·
   intro y0 y1 y2 y3
   unfold spec_place.l0
   repeat' first
   | (with_reducible exact ih0 _ _ _ _)
   | (with_reducible exact LeO.refl _)
   | (with_reducible exact LeO.none _)
   | (with_reducible refine LeO.ite ?_ ?_)
   | (with_reducible refine LeO.bind ?_ (fun _ => ?_))
   | exact ih0 _ _ _ _
   | exact LeO.none _
   | refine LeO.ite ?_ ?_
   | refine LeO.bind ?_ (fun _ => ?_)
theorem spec_place.mono : ∀ a0 a1 a2 k, LeO (spec_place.f k a0 a1 a2) (spec_place.f (k + 1) a0 a1 a2) := by
 intro a0 a1 a2 k
 have ih0 := spec_place.mono_l k
 unfold spec_place.f
 repeat' first
   | (with_reducible exact ih0 _ _ _ _)
   | (with_reducible exact LeO.refl _)
   | (with_reducible exact LeO.none _)
   | (with_reducible refine LeO.ite ?_ ?_)
   | (with_reducible refine LeO.bind ?_ (fun _ => ?_))
   | exact ih0 _ _ _ _
   | exact LeO.none _
   | refine LeO.ite ?_ ?_
   | refine LeO.bind ?_ (fun _ => ?_)
set_option maxHeartbeats 8000000 in
set_option maxRecDepth 100000 in
theorem spec_place.calls (k : Nat) (A0 : Option Addr) (c0 : Nat) (l0 : List (S31)) (a1 : ByteArray) (a2 : Int) (r : Int) (w : World) (hr0 : Kd.C k31 w A0 l0.length l0) (hc0 : l0.length ≤ c0) (h : spec_place.f k l0 a1 a2 = some r) :
  Calls Tryd.prog 44 #[.slice A0 l0.length c0, .string a1, .int .i64 a2] w fun e w' => e = .returned (.int .i64 r) ∧ Drawn0 w w' := by
 have HR0 := Aside0.mk hr0
 have HC0 := Aside0.mk hc0
 clear hr0 hc0
 have H : (spec_place.l0 k l0 a1 a2 0) = some r := h
 clear h
 have H' := Aside0.mk H
 clear H
 go_enter Tryd.func44, Tryd.ntmps44
 go_wp2
 go_loopg [7] k (fun kq v7 w' => ∃ (x7_1 : Int), v7 = .int .i64 x7_1 ∧ Aside0 (spec_place.l0 kq l0 a1 a2 x7_1 = some r) ∧ Aside0 (kq ≤ k) ∧ Drawn0 w w')
 case atStart => exact ⟨(0), (by first | rfl | (simp; done) | (simp [*]; done)), H', ⟨Nat.le_refl _⟩, by repeat (first | exact Drawn0.refl _ | apply Drawn0.step)⟩
 case round =>
  clear H'
  try clear p2
  obtain ⟨x7_1, rfl, HA, HK1, ⟨m1, rfl⟩⟩ := hrel
  cases gk with
  | zero => exact absurd HA.out (by simp [spec_place.l0])
  | succ k1 =>
   have H := HA.out
   clear HA
   simp only [spec_place.l0] at H
   by_cases c4 : x7_1 < (l0.length : Int)
   ·
    rw [if_pos c4] at H
    have c4b0 : decide (x7_1 < (l0.length : Int)) = true := decide_eq_true c4
    clear c4
    by_cases c5 : 0 ≤ x7_1
    ·
     rw [if_pos c5] at H
     have c5b0 : decide (0 ≤ x7_1) = true := decide_eq_true c5
     clear c5
     by_cases c6 : ((rd_T31 l0 x7_1).f0).toList = a1.toList
     ·
      rw [if_pos c6] at H
      have c6b0 : (((rd_T31 l0 x7_1).f0).toList == a1.toList) = true := beq_iff_eq.mpr c6
      have c6b1 : (((rd_T31 l0 x7_1).f0).toList != a1.toList) = false := bne_eq_false_iff_eq.mpr c6
      clear c6
      by_cases c7 : ((rd_T31 l0 x7_1).f1) = a2
      ·
       rw [if_pos c7] at H
       have c7b0 : (((rd_T31 l0 x7_1).f1) == a2) = true := beq_iff_eq.mpr c7
       have c7b1 : (((rd_T31 l0 x7_1).f1) != a2) = false := bne_eq_false_iff_eq.mpr c7
       clear c7
       obtain rfl := Option.some.inj H
       have p172 : 0 ≤ (x7_1 : Int) := of_decide_eq_true (by first | (with_reducible assumption) | assumption)
       have q172 : x7_1 < (l0.length : Int) := of_decide_eq_true (by first | (with_reducible assumption) | assumption)
       obtain ⟨ad172, e172, hx172_0, hx172_1⟩ := at_T31 HR0.out x7_1 p172 q172
       cases e172
       replace p172 := eq_true p172
       replace q172 := eq_true q172
       have p173 : 0 ≤ (x7_1 : Int) := of_decide_eq_true (by first | (with_reducible assumption) | assumption)
       have q173 : x7_1 < (l0.length : Int) := of_decide_eq_true (by first | (with_reducible assumption) | assumption)
       obtain ⟨ad173, e173, hx173_0, hx173_1⟩ := at_T31 HR0.out x7_1 p173 q173
       obtain rfl : ad172 = ad173 := (by injection e173)
       replace p173 := eq_true p173
       replace q173 := eq_true q173
       go_wp2
       go_ret
       exact ⟨by first | rfl | (simp; done) | (simp [*]; done) | (simp; generalize ByteArray.toList _ = l_; cases l_ <;> rfl), by repeat (first | exact Drawn0.refl _ | apply Drawn0.step)⟩
      ·
       rw [if_neg c7] at H
       have c7b0 : (((rd_T31 l0 x7_1).f1) == a2) = false := beq_eq_false_iff_ne.mpr c7
       have c7b1 : (((rd_T31 l0 x7_1).f1) != a2) = true := bne_iff_ne.mpr c7
       have H' := Aside0.mk H
       clear H
       have p172 : 0 ≤ (x7_1 : Int) := of_decide_eq_true (by first | (with_reducible assumption) | assumption)
       have q172 : x7_1 < (l0.length : Int) := of_decide_eq_true (by first | (with_reducible assumption) | assumption)
       obtain ⟨ad172, e172, hx172_0, hx172_1⟩ := at_T31 HR0.out x7_1 p172 q172
       cases e172
       replace p172 := eq_true p172
       replace q172 := eq_true q172
       have p173 : 0 ≤ (x7_1 : Int) := of_decide_eq_true (by first | (with_reducible assumption) | assumption)
       have q173 : x7_1 < (l0.length : Int) := of_decide_eq_true (by first | (with_reducible assumption) | assumption)
       obtain ⟨ad173, e173, hx173_0, hx173_1⟩ := at_T31 HR0.out x7_1 p173 q173
       obtain rfl : ad172 = ad173 := (by injection e173)
       replace p173 := eq_true p173
       replace q173 := eq_true q173
       go_wp2
       go_roundg k1
       case measure => have := HK1.out; omega
       case rel => exact ⟨(wrap64 (x7_1 + 1)), (by first | rfl | (simp; done) | (simp [*]; done)), H', ⟨by have := HK1.out; omega⟩, by repeat (first | exact Drawn0.refl _ | apply Drawn0.step)⟩
     ·
      rw [if_neg c6] at H
      have c6b0 : (((rd_T31 l0 x7_1).f0).toList == a1.toList) = false := beq_eq_false_iff_ne.mpr c6
      have c6b1 : (((rd_T31 l0 x7_1).f0).toList != a1.toList) = true := bne_iff_ne.mpr c6
      have H' := Aside0.mk H
      clear H
      have p172 : 0 ≤ (x7_1 : Int) := of_decide_eq_true (by first | (with_reducible assumption) | assumption)
      have q172 : x7_1 < (l0.length : Int) := of_decide_eq_true (by first | (with_reducible assumption) | assumption)
      obtain ⟨ad172, e172, hx172_0, hx172_1⟩ := at_T31 HR0.out x7_1 p172 q172
      cases e172
      replace p172 := eq_true p172
      replace q172 := eq_true q172
      go_wp2
      go_roundg k1
      case measure => have := HK1.out; omega
      case rel => exact ⟨(wrap64 (x7_1 + 1)), (by first | rfl | (simp; done) | (simp [*]; done)), H', ⟨by have := HK1.out; omega⟩, by repeat (first | exact Drawn0.refl _ | apply Drawn0.step)⟩
    ·
     rw [if_neg c5] at H
     exact absurd H (by simp)
   ·
    rw [if_neg c4] at H
    have c4b0 : decide (x7_1 < (l0.length : Int)) = false := decide_eq_false c4
    clear c4
    obtain rfl := Option.some.inj H
    go_wp2
    go_ret
    exact ⟨by first | rfl | (simp; done) | (simp [*]; done) | (simp; generalize ByteArray.toList _ = l_; cases l_ <;> rfl), by repeat (first | exact Drawn0.refl _ | apply Drawn0.step)⟩

end Go.Proofs.YtcnbnljlopopkaaDoor.PFnListTurned

-- thin
