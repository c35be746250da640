-- Written by hprint.py (this session's program, over the kit's printing program, with this session's own contracts in it). Not trusted: Lean checks it.
import Derived.Test.YtcnbnljlopopkaaDoorPFnListTurnedx0
import Derived.Test.YtcnbnljlopopkaaDoorPFnListTurnedx1
namespace Go.Proofs.YtcnbnljlopopkaaDoor.PFnListTurned
open Go.RowKit Go.Proofs.YtcnbnljlopopkaaDoorW.PrintWords Go.Proofs.YtcnbnljlopopkaaDoorW.PrintLast Go.Proofs.YtcnbnljlopopkaaDoorW.PrintMore
attribute [local go_sem] max2_int min2_int max_two min_two max_three min_three max_four min_four   -- for this text's walks alone
set_option linter.unusedVariables false
set_option linter.unusedSimpArgs false

/-! ### spec_Blank: function 57 -/
def spec_Blank.f (a0 : Int) : Option (Bool) := if a0 = 32 then (some true) else (if a0 = 9 then (some true) else (if a0 = 10 then (some true) else (if a0 = 13 then (some true) else (some (a0 == 12)))))
set_option maxHeartbeats 8000000 in
set_option maxRecDepth 100000 in
theorem spec_Blank.calls (a0 : Int) (r : Bool) (w : World) (h : spec_Blank.f a0 = some r) :
  Calls Tryd.prog 57 #[.int .u8 a0] w fun e w' => e = .returned (.bool r) ∧ Drawn0 w w' := by
 have H : (if a0 = 32 then (some true) else (if a0 = 9 then (some true) else (if a0 = 10 then (some true) else (if a0 = 13 then (some true) else (some (a0 == 12)))))) = some r := h
 clear h
 by_cases c2 : a0 = 32
 ·
  rw [if_pos c2] at H
  have c2b0 : (a0 == 32) = true := beq_iff_eq.mpr c2
  have c2b1 : (a0 != 32) = false := bne_eq_false_iff_eq.mpr c2
  clear c2
  obtain rfl := Option.some.inj H
  go_enter Tryd.func57, Tryd.ntmps57
  go_wp2
  go_ret
  exact ⟨by first | rfl | (simp; done) | (simp [*]; done) | (simp; generalize ByteArray.toList _ = l_; cases l_ <;> rfl), by repeat (first | exact Drawn0.refl _ | apply Drawn0.step)⟩
 ·
  rw [if_neg c2] at H
  have c2b0 : (a0 == 32) = false := beq_eq_false_iff_ne.mpr c2
  have c2b1 : (a0 != 32) = true := bne_iff_ne.mpr c2
  by_cases c3 : a0 = 9
  ·
   rw [if_pos c3] at H
   have c3b0 : (a0 == 9) = true := beq_iff_eq.mpr c3
   have c3b1 : (a0 != 9) = false := bne_eq_false_iff_eq.mpr c3
   clear c3
   obtain rfl := Option.some.inj H
   go_enter Tryd.func57, Tryd.ntmps57
   go_wp2
   go_ret
   exact ⟨by first | rfl | (simp; done) | (simp [*]; done) | (simp; generalize ByteArray.toList _ = l_; cases l_ <;> rfl), by repeat (first | exact Drawn0.refl _ | apply Drawn0.step)⟩
  ·
   rw [if_neg c3] at H
   have c3b0 : (a0 == 9) = false := beq_eq_false_iff_ne.mpr c3
   have c3b1 : (a0 != 9) = true := bne_iff_ne.mpr c3
   by_cases c4 : a0 = 10
   ·
    rw [if_pos c4] at H
    have c4b0 : (a0 == 10) = true := beq_iff_eq.mpr c4
    have c4b1 : (a0 != 10) = false := bne_eq_false_iff_eq.mpr c4
    clear c4
    obtain rfl := Option.some.inj H
    go_enter Tryd.func57, Tryd.ntmps57
    go_wp2
    go_ret
    exact ⟨by first | rfl | (simp; done) | (simp [*]; done) | (simp; generalize ByteArray.toList _ = l_; cases l_ <;> rfl), by repeat (first | exact Drawn0.refl _ | apply Drawn0.step)⟩
   ·
    rw [if_neg c4] at H
    have c4b0 : (a0 == 10) = false := beq_eq_false_iff_ne.mpr c4
    have c4b1 : (a0 != 10) = true := bne_iff_ne.mpr c4
    by_cases c5 : a0 = 13
    ·
     rw [if_pos c5] at H
     have c5b0 : (a0 == 13) = true := beq_iff_eq.mpr c5
     have c5b1 : (a0 != 13) = false := bne_eq_false_iff_eq.mpr c5
     clear c5
     obtain rfl := Option.some.inj H
     go_enter Tryd.func57, Tryd.ntmps57
     go_wp2
     go_ret
     exact ⟨by first | rfl | (simp; done) | (simp [*]; done) | (simp; generalize ByteArray.toList _ = l_; cases l_ <;> rfl), by repeat (first | exact Drawn0.refl _ | apply Drawn0.step)⟩
    ·
     rw [if_neg c5] at H
     have c5b0 : (a0 == 13) = false := beq_eq_false_iff_ne.mpr c5
     have c5b1 : (a0 != 13) = true := bne_iff_ne.mpr c5
     obtain rfl := Option.some.inj H
     go_enter Tryd.func57, Tryd.ntmps57
     go_wp2
     go_ret
     exact ⟨by first | rfl | (simp; done) | (simp [*]; done) | (simp; generalize ByteArray.toList _ = l_; cases l_ <;> rfl), by repeat (first | exact Drawn0.refl _ | apply Drawn0.step)⟩

/-! ### spec_Spaced: function 46 -/
def spec_Spaced.l0 : Nat → ByteArray → Int → Option (Bool)
 | 0, _, _ => none
 | k + 1, x0, x3 => if x3 < (x0.size : Int) then (if 0 ≤ x3 then ((spec_Blank.f (bt x0 x3)).bind fun t128 => (if t128 = true then (some true) else (spec_Spaced.l0 k x0 (wrap64 (x3 + 1))))) else (none)) else (some false)
def spec_Spaced.f (k : Nat) (a0 : ByteArray) : Option (Bool) := spec_Spaced.l0 k a0 0
theorem spec_Spaced.mono_l : ∀ k, (∀ y0 y1, LeO (spec_Spaced.l0 k y0 y1) (spec_Spaced.l0 (k + 1) y0 y1))
 | 0 => fun _ _ r h => by simp [spec_Spaced.l0] at h
 | k + 1 => by
  have ih0 := spec_Spaced.mono_l k
  ·
   intro y0 y1
   unfold spec_Spaced.l0
   repeat' first
   | (with_reducible exact ih0 _ _)
   | (with_reducible exact LeO.refl _)
   | (with_reducible exact LeO.none _)
   | (with_reducible refine LeO.ite ?_ ?_)
   | (with_reducible refine LeO.bind ?_ (fun _ => ?_))
   | exact ih0 _ _
   | exact LeO.none _
   | refine LeO.ite ?_ ?_
   | refine LeO.bind ?_ (fun _ => ?_)
theorem spec_Spaced.mono : ∀ a0 k, LeO (spec_Spaced.f k a0) (spec_Spaced.f (k + 1) a0) := by
 intro a0 k
 have ih0 := spec_Spaced.mono_l k
 unfold spec_Spaced.f
 repeat' first
   | (with_reducible exact ih0 _ _)
   | (with_reducible exact LeO.refl _)
   | (with_reducible exact LeO.none _)
   | (with_reducible refine LeO.ite ?_ ?_)
   | (with_reducible refine LeO.bind ?_ (fun _ => ?_))
   | exact ih0 _ _
   | exact LeO.none _
   | refine LeO.ite ?_ ?_
   | refine LeO.bind ?_ (fun _ => ?_)
set_option maxHeartbeats 8000000 in
set_option maxRecDepth 100000 in
theorem spec_Spaced.calls (k : Nat) (a0 : ByteArray) (r : Bool) (w : World) (h : spec_Spaced.f k a0 = some r) :
  Calls Tryd.prog 46 #[.string a0] w fun e w' => e = .returned (.bool r) ∧ Drawn0 w w' := by
 have H : (spec_Spaced.l0 k a0 0) = some r := h
 clear h
 have H' := Aside0.mk H
 clear H
 go_enter Tryd.func46, Tryd.ntmps46
 go_wp2
 go_loopg [3] k (fun kq v3 w' => ∃ (x3_1 : Int), v3 = .int .i64 x3_1 ∧ Aside0 (spec_Spaced.l0 kq a0 x3_1 = some r) ∧ Aside0 (kq ≤ k) ∧ Drawn0 w w')
 case atStart => exact ⟨(0), (by first | rfl | (simp; done) | (simp [*]; done)), H', ⟨Nat.le_refl _⟩, by repeat (first | exact Drawn0.refl _ | apply Drawn0.step)⟩
 case round =>
  clear H'
  obtain ⟨x3_1, rfl, HA, HK1, ⟨m1, rfl⟩⟩ := hrel
  cases gk with
  | zero => exact absurd HA.out (by simp [spec_Spaced.l0])
  | succ k1 =>
   have H := HA.out
   clear HA
   simp only [spec_Spaced.l0] at H
   by_cases c2 : x3_1 < (a0.size : Int)
   ·
    rw [if_pos c2] at H
    have c2b0 : decide (x3_1 < (a0.size : Int)) = true := decide_eq_true c2
    clear c2
    by_cases c3 : 0 ≤ x3_1
    ·
     rw [if_pos c3] at H
     have c3b0 : decide (0 ≤ x3_1) = true := decide_eq_true c3
     clear c3
     replace H := Option.bind_eq_some_iff.mp H
     obtain ⟨t128, A50, H⟩ := H
     replace H : (if t128 = true then (some true) else (spec_Spaced.l0 k1 a0 (wrap64 (x3_1 + 1)))) = some r := H
     have A5 := Aside0.mk A50
     clear A50
     by_cases c6 : t128 = true
     ·
      subst c6
      have H1 : (some true) = some r := by rw [if_pos rfl] at H; exact H
      clear H
      have H := H1
      clear H1
      obtain rfl := Option.some.inj H
      have p4 : 0 ≤ (x3_1 : Int) := of_decide_eq_true (by first | (with_reducible assumption) | assumption)
      have q4 : x3_1 < (a0.size : Int) := of_decide_eq_true (by first | (with_reducible assumption) | assumption)
      have hx4 := bt_at a0 x3_1
      replace p4 := eq_true p4
      replace q4 := eq_true q4
      go_wp2_with (first | ((with_reducible refine gate_callee (f := 57) rfl ?_); refine goesL_ (some 13) rfl rfl Tryd.func57 (by kernel_rfl) rfl #[.int .u8 (bt a0 x3_1)] rfl (by (try simp only [List.map_toArray, List.map_cons, List.map_nil]); first | done | rfl | (simp only [List.length_drop, List.length_take]; rfl)) ?_; (with_reducible refine (spec_Blank.calls (bt a0 x3_1) true _ A5.out).mono ?_); rintro e w' ⟨rfl, ⟨nd, rfl⟩⟩; refine ⟨_, rfl, ?_⟩))
      go_ret
      exact ⟨by first | rfl | (simp; done) | (simp [*]; done) | (simp; generalize ByteArray.toList _ = l_; cases l_ <;> rfl), by repeat (first | exact Drawn0.refl _ | apply Drawn0.step)⟩
     ·
      replace c6 := Bool.eq_false_iff.mpr c6
      subst c6
      have H1 : (spec_Spaced.l0 k1 a0 (wrap64 (x3_1 + 1))) = some r := by rw [if_neg (show ¬ (false = true) by decide)] at H; exact H
      clear H
      have H := H1
      clear H1
      have H' := Aside0.mk H
      clear H
      have p4 : 0 ≤ (x3_1 : Int) := of_decide_eq_true (by first | (with_reducible assumption) | assumption)
      have q4 : x3_1 < (a0.size : Int) := of_decide_eq_true (by first | (with_reducible assumption) | assumption)
      have hx4 := bt_at a0 x3_1
      replace p4 := eq_true p4
      replace q4 := eq_true q4
      go_wp2_with (first | ((with_reducible refine gate_callee (f := 57) rfl ?_); refine goesL_ (some 13) rfl rfl Tryd.func57 (by kernel_rfl) rfl #[.int .u8 (bt a0 x3_1)] rfl (by (try simp only [List.map_toArray, List.map_cons, List.map_nil]); first | done | rfl | (simp only [List.length_drop, List.length_take]; rfl)) ?_; (with_reducible refine (spec_Blank.calls (bt a0 x3_1) false _ A5.out).mono ?_); rintro e w' ⟨rfl, ⟨nd, rfl⟩⟩; refine ⟨_, rfl, ?_⟩))
      go_roundg k1
      case measure => have := HK1.out; omega
      case rel => exact ⟨(wrap64 (x3_1 + 1)), (by first | rfl | (simp; done) | (simp [*]; done)), H', ⟨by have := HK1.out; omega⟩, by repeat (first | exact Drawn0.refl _ | apply Drawn0.step)⟩
    ·
     rw [if_neg c3] at H
     exact absurd H (by simp)
   ·
    rw [if_neg c2] at H
    have c2b0 : decide (x3_1 < (a0.size : Int)) = false := decide_eq_false c2
    clear c2
    obtain rfl := Option.some.inj H
    go_wp2
    go_ret
    exact ⟨by first | rfl | (simp; done) | (simp [*]; done) | (simp; generalize ByteArray.toList _ = l_; cases l_ <;> rfl), by repeat (first | exact Drawn0.refl _ | apply Drawn0.step)⟩

/-! ### spec_Valid: function 28 -/
def spec_Valid.f (k : Nat) (a0 : ByteArray) : Option (Bool) := (spec_Tokens.f k a0).bind fun t129 => ((spec_Formed.f k t129).bind fun t132 => (if t132 = true then ((spec_Spaced.f k a0).bind fun t133 => (some (!t133))) else (some false)))
theorem spec_Valid.mono : ∀ a0 k, LeO (spec_Valid.f k a0) (spec_Valid.f (k + 1) a0) := by
 intro a0 k
 unfold spec_Valid.f
 repeat' first
   | (with_reducible exact spec_Formed.mono _ _)
   | (with_reducible exact spec_Spaced.mono _ _)
   | (with_reducible exact spec_Tokens.mono _ _)
   | (with_reducible exact LeO.refl _)
   | (with_reducible exact LeO.none _)
   | (with_reducible refine LeO.ite ?_ ?_)
   | (with_reducible refine LeO.bind ?_ (fun _ => ?_))
   | exact spec_Formed.mono _ _
   | exact spec_Spaced.mono _ _
   | exact spec_Tokens.mono _ _
   | exact LeO.none _
   | refine LeO.ite ?_ ?_
   | refine LeO.bind ?_ (fun _ => ?_)
set_option maxHeartbeats 8000000 in
set_option maxRecDepth 100000 in
theorem spec_Valid.calls (k : Nat) (a0 : ByteArray) (r : Bool) (w : World) (h : spec_Valid.f k a0 = some r) :
  Calls Tryd.prog 28 #[.string a0] w fun e w' => e = .returned (.bool r) ∧ Below w.heap.size w w' := by
 have HB := Aside0.mk (Below.refl w.heap.size w)
 have H : ((spec_Tokens.f k a0).bind fun t129 => ((spec_Formed.f k t129).bind fun t132 => (if t132 = true then ((spec_Spaced.f k a0).bind fun t133 => (some (!t133))) else (some false)))) = some r := h
 clear h
 replace H := Option.bind_eq_some_iff.mp H
 obtain ⟨t129, A20, H⟩ := H
 replace H : ((spec_Formed.f k t129).bind fun t132 => (if t132 = true then ((spec_Spaced.f k a0).bind fun t133 => (some (!t133))) else (some false))) = some r := H
 have A2 := Aside0.mk A20
 clear A20
 replace H := Option.bind_eq_some_iff.mp H
 obtain ⟨t132, A30, H⟩ := H
 replace H : (if t132 = true then ((spec_Spaced.f k a0).bind fun t133 => (some (!t133))) else (some false)) = some r := H
 have A3 := Aside0.mk A30
 clear A30
 by_cases c4 : t132 = true
 ·
  subst c4
  have H1 : ((spec_Spaced.f k a0).bind fun t133 => (some (!t133))) = some r := by rw [if_pos rfl] at H; exact H
  clear H
  have H := H1
  clear H1
  replace H := Option.bind_eq_some_iff.mp H
  obtain ⟨t133, A50, H⟩ := H
  replace H : (some (!t133)) = some r := H
  have A5 := Aside0.mk A50
  clear A50
  obtain rfl := Option.some.inj H
  go_enter Tryd.func28, Tryd.ntmps28
  go_wp2_with (first | ((with_reducible refine gate_callee (f := 32) rfl ?_); refine goesL_ (some 4) rfl rfl Tryd.func32 (by kernel_rfl) rfl #[.string a0] rfl (by (try simp only [List.map_toArray, List.map_cons, List.map_nil]); first | done | rfl | (simp only [List.length_drop, List.length_take]; rfl)) ?_; (with_reducible refine (spec_Tokens.calls k a0 t129 _ A2.out).mono ?_); rintro e w6 ⟨v130, rfl, ho0, hb⟩; refine ⟨_, rfl, ?_⟩; have n0_ := Aside0.mk (Kd.R_lower ho0 (below_size (by repeat (first | (with_reducible first | exact HB.out | apply below_alloc | apply pw_below_drewN | apply below_drew1) | exact HB.out)))); have n1_ := Aside0.mk (below_step (by repeat (first | (with_reducible first | exact HB.out | apply below_alloc | apply pw_below_drewN | apply below_drew1) | exact HB.out)) hb); clear HB; have HO131 := n0_; have HB := n1_; clear n0_ n1_; (try clear hb); (try clear hb2); (try clear hk); (try clear hi); (try clear ho0); obtain ⟨Ao7, co7, eo7⟩ := Kd.R_slice HO131.out; subst eo7) | ((with_reducible refine gate_callee (f := 45) rfl ?_); refine goesL_ (some 5) rfl rfl Tryd.func45 (by kernel_rfl) rfl #[.slice Ao7 t129.length co7] rfl (by (try simp only [List.map_toArray, List.map_cons, List.map_nil]); first | done | rfl | (simp only [List.length_drop, List.length_take]; rfl)) ?_; (with_reducible refine (spec_Formed.calls k _ _ t129 true _ ?side1 ?side2 A3.out).mono ?_); (case side1 => repeat (first | exact (Kd.R_reads' HO131.out).2.2 | (with_reducible refine Kd.C_alloc ?_ _) | (with_reducible refine Kd.C_drewN ?_ _) | (with_reducible refine Kd.C_drew ?_))); (case side2 => exact (Kd.R_reads' HO131.out).2.1); rintro e w' ⟨rfl, ⟨nd, rfl⟩⟩; refine ⟨_, rfl, ?_⟩) | (go_at_call 46; (with_reducible refine (spec_Spaced.calls k a0 t133 _ A5.out).mono ?_); rintro e w' ⟨rfl, ⟨nd, rfl⟩⟩))
  go_ret
  exact ⟨by first | rfl | (simp [errW_none, errW_some] <;> rfl) | (simp [*, errW_none, errW_some] <;> rfl) | (simp [errW_none, errW_some]; generalize ByteArray.toList _ = l_; cases l_ <;> rfl), by repeat (first | (with_reducible first | exact HB.out | apply below_alloc | apply pw_below_drewN | apply below_drew1) | exact HB.out)⟩
 ·
  replace c4 := Bool.eq_false_iff.mpr c4
  subst c4
  have H1 : (some false) = some r := by rw [if_neg (show ¬ (false = true) by decide)] at H; exact H
  clear H
  have H := H1
  clear H1
  obtain rfl := Option.some.inj H
  go_enter Tryd.func28, Tryd.ntmps28
  go_wp2_with (first | ((with_reducible refine gate_callee (f := 32) rfl ?_); refine goesL_ (some 4) rfl rfl Tryd.func32 (by kernel_rfl) rfl #[.string a0] rfl (by (try simp only [List.map_toArray, List.map_cons, List.map_nil]); first | done | rfl | (simp only [List.length_drop, List.length_take]; rfl)) ?_; (with_reducible refine (spec_Tokens.calls k a0 t129 _ A2.out).mono ?_); rintro e w8 ⟨v130, rfl, ho0, hb⟩; refine ⟨_, rfl, ?_⟩; have n0_ := Aside0.mk (Kd.R_lower ho0 (below_size (by repeat (first | (with_reducible first | exact HB.out | apply below_alloc | apply pw_below_drewN | apply below_drew1) | exact HB.out)))); have n1_ := Aside0.mk (below_step (by repeat (first | (with_reducible first | exact HB.out | apply below_alloc | apply pw_below_drewN | apply below_drew1) | exact HB.out)) hb); clear HB; have HO131 := n0_; have HB := n1_; clear n0_ n1_; (try clear hb); (try clear hb2); (try clear hk); (try clear hi); (try clear ho0); obtain ⟨Ao9, co9, eo9⟩ := Kd.R_slice HO131.out; subst eo9) | ((with_reducible refine gate_callee (f := 45) rfl ?_); refine goesL_ (some 5) rfl rfl Tryd.func45 (by kernel_rfl) rfl #[.slice Ao9 t129.length co9] rfl (by (try simp only [List.map_toArray, List.map_cons, List.map_nil]); first | done | rfl | (simp only [List.length_drop, List.length_take]; rfl)) ?_; (with_reducible refine (spec_Formed.calls k _ _ t129 false _ ?side1 ?side2 A3.out).mono ?_); (case side1 => repeat (first | exact (Kd.R_reads' HO131.out).2.2 | (with_reducible refine Kd.C_alloc ?_ _) | (with_reducible refine Kd.C_drewN ?_ _) | (with_reducible refine Kd.C_drew ?_))); (case side2 => exact (Kd.R_reads' HO131.out).2.1); rintro e w' ⟨rfl, ⟨nd, rfl⟩⟩; refine ⟨_, rfl, ?_⟩))
  go_ret
  exact ⟨by first | rfl | (simp [errW_none, errW_some] <;> rfl) | (simp [*, errW_none, errW_some] <;> rfl) | (simp [errW_none, errW_some]; generalize ByteArray.toList _ = l_; cases l_ <;> rfl), by repeat (first | (with_reducible first | exact HB.out | apply below_alloc | apply pw_below_drewN | apply below_drew1) | exact HB.out)⟩

/-! ### laws_clean: function 42 -/
mutual
def laws_clean.l0 : Nat → ByteArray → Int → Option (Bool)
 | 0, _, _ => none
 | k + 1, x0, x3 => if x3 < (x0.size : Int) then (laws_clean.j1 k x0 x3 (decide (x3 ≤ 400))) else (laws_clean.j1 k x0 x3 false)
def laws_clean.j1 : Nat → ByteArray → Int → Bool → Option (Bool)
 | 0, _, _, _ => none
 | k + 1, x0, x3, x11 => if x11 = true then (if 0 ≤ x3 then (if x3 < (x0.size : Int) then (if (bt x0 x3) ≤ 32 then (some false) else (if (bt x0 x3) = 127 then (some false) else (laws_clean.l0 k x0 (wrap64 (x3 + 1))))) else (none)) else (none)) else (some (decide ((x0.size : Int) ≤ 400)))
end
def laws_clean.f (k : Nat) (a0 : ByteArray) : Option (Bool) := laws_clean.l0 k a0 0
theorem laws_clean.mono_l : ∀ k, (∀ y0 y1, LeO (laws_clean.l0 k y0 y1) (laws_clean.l0 (k + 1) y0 y1)) ∧ (∀ y0 y1 y2, LeO (laws_clean.j1 k y0 y1 y2) (laws_clean.j1 (k + 1) y0 y1 y2))
 | 0 => ⟨fun _ _ r h => by simp [laws_clean.l0] at h, fun _ _ _ r h => by simp [laws_clean.j1] at h⟩
 | k + 1 => by
  obtain ⟨ih0, ih1⟩ := laws_clean.mono_l k
  refine ⟨?_, ?_⟩
  ·
   intro y0 y1
   unfold laws_clean.l0
   repeat' first
   | (with_reducible exact ih0 _ _)
   | (with_reducible exact ih1 _ _ _)
   | (with_reducible exact LeO.refl _)
   | (with_reducible exact LeO.none _)
   | (with_reducible refine LeO.ite ?_ ?_)
   | (with_reducible refine LeO.bind ?_ (fun _ => ?_))
   | exact ih0 _ _
   | exact ih1 _ _ _
   | exact LeO.none _
   | refine LeO.ite ?_ ?_
   | refine LeO.bind ?_ (fun _ => ?_)
  ·
   intro y0 y1 y2
   unfold laws_clean.j1
   repeat' first
   | (with_reducible exact ih0 _ _)
   | (with_reducible exact ih1 _ _ _)
   | (with_reducible exact LeO.refl _)
   | (with_reducible exact LeO.none _)
   | (with_reducible refine LeO.ite ?_ ?_)
   | (with_reducible refine LeO.bind ?_ (fun _ => ?_))
   | exact ih0 _ _
   | exact ih1 _ _ _
   | exact LeO.none _
   | refine LeO.ite ?_ ?_
   | refine LeO.bind ?_ (fun _ => ?_)
theorem laws_clean.mono : ∀ a0 k, LeO (laws_clean.f k a0) (laws_clean.f (k + 1) a0) := by
 intro a0 k
 obtain ⟨ih0, ih1⟩ := laws_clean.mono_l k
 unfold laws_clean.f
 repeat' first
   | (with_reducible exact ih0 _ _)
   | (with_reducible exact ih1 _ _ _)
   | (with_reducible exact LeO.refl _)
   | (with_reducible exact LeO.none _)
   | (with_reducible refine LeO.ite ?_ ?_)
   | (with_reducible refine LeO.bind ?_ (fun _ => ?_))
   | exact ih0 _ _
   | exact ih1 _ _ _
   | exact LeO.none _
   | refine LeO.ite ?_ ?_
   | refine LeO.bind ?_ (fun _ => ?_)
set_option maxHeartbeats 8000000 in
set_option maxRecDepth 100000 in
theorem laws_clean.calls (k : Nat) (a0 : ByteArray) (r : Bool) (w : World) (h : laws_clean.f k a0 = some r) :
  Calls Tryd.prog 42 #[.string a0] w fun e w' => e = .returned (.bool r) ∧ Drawn0 w w' := by
 have H : (laws_clean.l0 k a0 0) = some r := h
 clear h
 have H' := Aside0.mk H
 clear H
 go_enter Tryd.func42, Tryd.ntmps42
 go_wp2
 go_loopg [3] k (fun kq v3 w' => ∃ (x3_1 : Int), v3 = .int .i64 x3_1 ∧ Aside0 (laws_clean.l0 kq a0 x3_1 = some r) ∧ Aside0 (kq ≤ k) ∧ Drawn0 w w')
 case atStart => exact ⟨(0), (by first | rfl | (simp; done) | (simp [*]; done)), H', ⟨Nat.le_refl _⟩, by repeat (first | exact Drawn0.refl _ | apply Drawn0.step)⟩
 case round =>
  clear H'
  obtain ⟨x3_1, rfl, HA, HK1, ⟨m1, rfl⟩⟩ := hrel
  cases gk with
  | zero => exact absurd HA.out (by simp [laws_clean.l0])
  | succ k1 =>
   have H := HA.out
   clear HA
   simp only [laws_clean.l0] at H
   have HC2 := Aside0.mk H
   clear H
   go_upto_region 2 with (fail)
   go_cut [11] (fun v11 wc => ∃ (kq : Nat) (x11_1 : Bool), v11 = .bool x11_1 ∧ Aside0 (laws_clean.j1 kq a0 x3_1 x11_1 = some r) ∧ Aside0 (kq ≤ k1) ∧ Drawn0 w wc)
   case first =>
    have H := HC2.out
    clear HC2
    by_cases c3 : x3_1 < (a0.size : Int)
    ·
     rw [if_pos c3] at H
     have c3b0 : decide (x3_1 < (a0.size : Int)) = true := decide_eq_true c3
     clear c3
     (first | rw [c3b0] | (simp only [i64_w, i32_w]; rw [c3b0]) | skip)
     have H' := Aside0.mk H
     clear H
     go_wp2
     go_meet
     case rel => exact ⟨_, (decide (x3_1 ≤ 400)), (by first | rfl | (simp; done) | (simp [*]; done)), H', ⟨by have := HK1.out; first | omega | exact Nat.le_refl _⟩, by repeat (first | exact Drawn0.refl _ | apply Drawn0.step)⟩
    ·
     rw [if_neg c3] at H
     have c3b0 : decide (x3_1 < (a0.size : Int)) = false := decide_eq_false c3
     clear c3
     (first | rw [c3b0] | (simp only [i64_w, i32_w]; rw [c3b0]) | skip)
     have H' := Aside0.mk H
     clear H
     go_wp2
     go_meet
     case rel => exact ⟨_, (false), (by first | rfl | (simp; done) | (simp [*]; done)), H', ⟨by have := HK1.out; first | omega | exact Nat.le_refl _⟩, by repeat (first | exact Drawn0.refl _ | apply Drawn0.step)⟩
   case rest =>
    clear HC2
    try clear p2
    try clear c3
    try clear c3b0
    obtain ⟨kq, x11_1, rfl, HA, HJ1, ⟨mc1, rfl⟩⟩ := hcut
    cases kq with
    | zero => exact absurd HA.out (by simp [laws_clean.j1])
    | succ kj1 =>
     have H := HA.out
     clear HA
     simp only [laws_clean.j1] at H
     by_cases c4 : x11_1 = true
     ·
      subst c4
      have H1 : (if 0 ≤ x3_1 then (if x3_1 < (a0.size : Int) then (if (bt a0 x3_1) ≤ 32 then (some false) else (if (bt a0 x3_1) = 127 then (some false) else (laws_clean.l0 kj1 a0 (wrap64 (x3_1 + 1))))) else (none)) else (none)) = some r := by rw [if_pos rfl] at H; exact H
      clear H
      have H := H1
      clear H1
      by_cases c5 : 0 ≤ x3_1
      ·
       rw [if_pos c5] at H
       have c5b0 : decide (0 ≤ x3_1) = true := decide_eq_true c5
       clear c5
       by_cases c6 : x3_1 < (a0.size : Int)
       ·
        rw [if_pos c6] at H
        have c6b0 : decide (x3_1 < (a0.size : Int)) = true := decide_eq_true c6
        clear c6
        by_cases c8 : (bt a0 x3_1) ≤ 32
        ·
         rw [if_pos c8] at H
         have c8b0 : decide ((bt a0 x3_1) ≤ 32) = true := decide_eq_true c8
         clear c8
         obtain rfl := Option.some.inj H
         have p7 : 0 ≤ (x3_1 : Int) := of_decide_eq_true (by first | (with_reducible assumption) | assumption)
         have q7 : x3_1 < (a0.size : Int) := of_decide_eq_true (by first | (with_reducible assumption) | assumption)
         have hx7 := bt_at a0 x3_1
         replace p7 := eq_true p7
         replace q7 := eq_true q7
         go_wp2
         go_ret
         exact ⟨by first | rfl | (simp; done) | (simp [*]; done) | (simp; generalize ByteArray.toList _ = l_; cases l_ <;> rfl), by repeat (first | exact Drawn0.refl _ | apply Drawn0.step)⟩
        ·
         rw [if_neg c8] at H
         have c8b0 : decide ((bt a0 x3_1) ≤ 32) = false := decide_eq_false c8
         clear c8
         by_cases c10 : (bt a0 x3_1) = 127
         ·
          rw [if_pos c10] at H
          have c10b0 : ((bt a0 x3_1) == 127) = true := beq_iff_eq.mpr c10
          have c10b1 : ((bt a0 x3_1) != 127) = false := bne_eq_false_iff_eq.mpr c10
          clear c10
          obtain rfl := Option.some.inj H
          have p7 : 0 ≤ (x3_1 : Int) := of_decide_eq_true (by first | (with_reducible assumption) | assumption)
          have q7 : x3_1 < (a0.size : Int) := of_decide_eq_true (by first | (with_reducible assumption) | assumption)
          have hx7 := bt_at a0 x3_1
          replace p7 := eq_true p7
          replace q7 := eq_true q7
          have p9 : 0 ≤ (x3_1 : Int) := of_decide_eq_true (by first | (with_reducible assumption) | assumption)
          have q9 : x3_1 < (a0.size : Int) := of_decide_eq_true (by first | (with_reducible assumption) | assumption)
          have hx9 := bt_at a0 x3_1
          replace p9 := eq_true p9
          replace q9 := eq_true q9
          go_wp2
          go_ret
          exact ⟨by first | rfl | (simp; done) | (simp [*]; done) | (simp; generalize ByteArray.toList _ = l_; cases l_ <;> rfl), by repeat (first | exact Drawn0.refl _ | apply Drawn0.step)⟩
         ·
          rw [if_neg c10] at H
          have c10b0 : ((bt a0 x3_1) == 127) = false := beq_eq_false_iff_ne.mpr c10
          have c10b1 : ((bt a0 x3_1) != 127) = true := bne_iff_ne.mpr c10
          have H' := Aside0.mk H
          clear H
          have p7 : 0 ≤ (x3_1 : Int) := of_decide_eq_true (by first | (with_reducible assumption) | assumption)
          have q7 : x3_1 < (a0.size : Int) := of_decide_eq_true (by first | (with_reducible assumption) | assumption)
          have hx7 := bt_at a0 x3_1
          replace p7 := eq_true p7
          replace q7 := eq_true q7
          have p9 : 0 ≤ (x3_1 : Int) := of_decide_eq_true (by first | (with_reducible assumption) | assumption)
          have q9 : x3_1 < (a0.size : Int) := of_decide_eq_true (by first | (with_reducible assumption) | assumption)
          have hx9 := bt_at a0 x3_1
          replace p9 := eq_true p9
          replace q9 := eq_true q9
          go_wp2
          go_roundg kj1
          case measure => have := HK1.out; have := HJ1.out; omega
          case rel => exact ⟨(wrap64 (x3_1 + 1)), (by first | rfl | (simp; done) | (simp [*]; done)), H', ⟨by have := HK1.out; have := HJ1.out; omega⟩, by repeat (first | exact Drawn0.refl _ | apply Drawn0.step)⟩
       ·
        rw [if_neg c6] at H
        exact absurd H (by simp)
      ·
       rw [if_neg c5] at H
       exact absurd H (by simp)
     ·
      replace c4 := Bool.eq_false_iff.mpr c4
      subst c4
      have H1 : (some (decide ((a0.size : Int) ≤ 400))) = some r := by rw [if_neg (show ¬ (false = true) by decide)] at H; exact H
      clear H
      have H := H1
      clear H1
      obtain rfl := Option.some.inj H
      go_wp2
      go_ret
      exact ⟨by first | rfl | (simp; done) | (simp [*]; done) | (simp; generalize ByteArray.toList _ = l_; cases l_ <;> rfl), by repeat (first | exact Drawn0.refl _ | apply Drawn0.step)⟩

/-! ### laws_tame: function 43 -/
mutual
def laws_tame.l0 : Nat → List ByteArray → Int → Option (Bool)
 | 0, _, _ => none
 | k + 1, x3, x4 => if x4 < (x3.length : Int) then (laws_tame.l1 k x3 x4 0) else (some true)
def laws_tame.l1 : Nat → List ByteArray → Int → Int → Option (Bool)
 | 0, _, _, _ => none
 | k + 1, x3, x4, x5 => if 0 ≤ x4 then (if x4 < (x3.length : Int) then (if x5 < ((rdOf ByteArray.empty x3 x4).size : Int) then (laws_tame.j2 k x3 x4 x5 (decide (((rdOf ByteArray.empty x3 x4).size : Int) > 1))) else (laws_tame.j2 k x3 x4 x5 false)) else (none)) else (none)
def laws_tame.j2 : Nat → List ByteArray → Int → Int → Bool → Option (Bool)
 | 0, _, _, _, _ => none
 | k + 1, x3, x4, x5, x28 => if x28 = true then (if 0 ≤ x4 then (if x4 < (x3.length : Int) then (if 0 ≤ x5 then (if x5 < ((rdOf ByteArray.empty x3 x4).size : Int) then (if (bt (rdOf ByteArray.empty x3 x4) x5) = 42 then (some false) else (if (bt (rdOf ByteArray.empty x3 x4) x5) = 62 then (some false) else (laws_tame.l1 k x3 x4 (wrap64 (x5 + 1))))) else (none)) else (none)) else (none)) else (none)) else (laws_tame.l0 k x3 (wrap64 (x4 + 1)))
end
def laws_tame.f (k : Nat) (a0 : ByteArray) : Option (Bool) := (spec_Tokens.f k a0).bind fun t134 => (laws_tame.l0 k t134 0)
theorem laws_tame.mono_l : ∀ k, (∀ y0 y1, LeO (laws_tame.l0 k y0 y1) (laws_tame.l0 (k + 1) y0 y1)) ∧ (∀ y0 y1 y2, LeO (laws_tame.l1 k y0 y1 y2) (laws_tame.l1 (k + 1) y0 y1 y2)) ∧ (∀ y0 y1 y2 y3, LeO (laws_tame.j2 k y0 y1 y2 y3) (laws_tame.j2 (k + 1) y0 y1 y2 y3))
 | 0 => ⟨fun _ _ r h => by simp [laws_tame.l0] at h, fun _ _ _ r h => by simp [laws_tame.l1] at h, fun _ _ _ _ r h => by simp [laws_tame.j2] at h⟩
 | k + 1 => by
  obtain ⟨ih0, ih1, ih2⟩ := laws_tame.mono_l k
  refine ⟨?_, ?_, ?_⟩
  ·
   intro y0 y1
   unfold laws_tame.l0
   repeat' first
   | (with_reducible exact ih0 _ _)
   | (with_reducible exact ih1 _ _ _)
   | (with_reducible exact ih2 _ _ _ _)
   | (with_reducible exact spec_Tokens.mono _ _)
   | (with_reducible exact LeO.refl _)
   | (with_reducible exact LeO.none _)
   | (with_reducible refine LeO.ite ?_ ?_)
   | (with_reducible refine LeO.bind ?_ (fun _ => ?_))
   | exact ih0 _ _
   | exact ih1 _ _ _
   | exact ih2 _ _ _ _
   | exact spec_Tokens.mono _ _
   | exact LeO.none _
   | refine LeO.ite ?_ ?_
   | refine LeO.bind ?_ (fun _ => ?_)
  ·
   intro y0 y1 y2
   unfold laws_tame.l1
   repeat' first
   | (with_reducible exact ih0 _ _)
   | (with_reducible exact ih1 _ _ _)
   | (with_reducible exact ih2 _ _ _ _)
   | (with_reducible exact spec_Tokens.mono _ _)
   | (with_reducible exact LeO.refl _)
   | (with_reducible exact LeO.none _)
   | (with_reducible refine LeO.ite ?_ ?_)
   | (with_reducible refine LeO.bind ?_ (fun _ => ?_))
   | exact ih0 _ _
   | exact ih1 _ _ _
   | exact ih2 _ _ _ _
   | exact spec_Tokens.mono _ _
   | exact LeO.none _
   | refine LeO.ite ?_ ?_
   | refine LeO.bind ?_ (fun _ => ?_)
  ·
   intro y0 y1 y2 y3
   unfold laws_tame.j2
   repeat' first
   | (with_reducible exact ih0 _ _)
   | (with_reducible exact ih1 _ _ _)
   | (with_reducible exact ih2 _ _ _ _)
   | (with_reducible exact spec_Tokens.mono _ _)
   | (with_reducible exact LeO.refl _)
   | (with_reducible exact LeO.none _)
   | (with_reducible refine LeO.ite ?_ ?_)
   | (with_reducible refine LeO.bind ?_ (fun _ => ?_))
   | exact ih0 _ _
   | exact ih1 _ _ _
   | exact ih2 _ _ _ _
   | exact spec_Tokens.mono _ _
   | exact LeO.none _
   | refine LeO.ite ?_ ?_
   | refine LeO.bind ?_ (fun _ => ?_)
theorem laws_tame.mono : ∀ a0 k, LeO (laws_tame.f k a0) (laws_tame.f (k + 1) a0) := by
 intro a0 k
 obtain ⟨ih0, ih1, ih2⟩ := laws_tame.mono_l k
 unfold laws_tame.f
 repeat' first
   | (with_reducible exact ih0 _ _)
   | (with_reducible exact ih1 _ _ _)
   | (with_reducible exact ih2 _ _ _ _)
   | (with_reducible exact spec_Tokens.mono _ _)
   | (with_reducible exact LeO.refl _)
   | (with_reducible exact LeO.none _)
   | (with_reducible refine LeO.ite ?_ ?_)
   | (with_reducible refine LeO.bind ?_ (fun _ => ?_))
   | exact ih0 _ _
   | exact ih1 _ _ _
   | exact ih2 _ _ _ _
   | exact spec_Tokens.mono _ _
   | exact LeO.none _
   | refine LeO.ite ?_ ?_
   | refine LeO.bind ?_ (fun _ => ?_)
set_option maxHeartbeats 8000000 in
set_option maxRecDepth 100000 in
theorem laws_tame.calls (k : Nat) (a0 : ByteArray) (r : Bool) (w : World) (h : laws_tame.f k a0 = some r) :
  Calls Tryd.prog 43 #[.string a0] w fun e w' => e = .returned (.bool r) ∧ Below w.heap.size w w' := by
 have HB := Aside0.mk (Below.refl w.heap.size w)
 have H : ((spec_Tokens.f k a0).bind fun t134 => (laws_tame.l0 k t134 0)) = some r := h
 clear h
 replace H := Option.bind_eq_some_iff.mp H
 obtain ⟨t134, A20, H⟩ := H
 replace H : (laws_tame.l0 k t134 0) = some r := H
 have A2 := Aside0.mk A20
 clear A20
 have H' := Aside0.mk H
 clear H
 go_enter Tryd.func43, Tryd.ntmps43
 go_wp2_with (first | ((with_reducible refine gate_callee (f := 32) rfl ?_); refine goesL_ (some 7) rfl rfl Tryd.func32 (by kernel_rfl) rfl #[.string a0] rfl (by (try simp only [List.map_toArray, List.map_cons, List.map_nil]); first | done | rfl | (simp only [List.length_drop, List.length_take]; rfl)) ?_; (with_reducible refine (spec_Tokens.calls k a0 t134 _ A2.out).mono ?_); rintro e w3 ⟨v135, rfl, ho0, hb⟩; refine ⟨_, rfl, ?_⟩; have n0_ := Aside0.mk (Kd.R_lower ho0 (below_size (by repeat (first | (with_reducible first | exact HB.out | apply below_alloc | apply pw_below_drewN | apply below_drew1) | exact HB.out)))); have n1_ := Aside0.mk (below_step (by repeat (first | (with_reducible first | exact HB.out | apply below_alloc | apply pw_below_drewN | apply below_drew1) | exact HB.out)) hb); clear HB; have HO136 := n0_; have HB := n1_; clear n0_ n1_; (try clear hb); (try clear hb2); (try clear hk); (try clear hi); (try clear ho0)))
 go_loopg [4] k (fun kq v4 w' => ∃ (x4_1 : Int), v4 = .int .i64 x4_1 ∧ Aside0 (laws_tame.l0 kq t134 x4_1 = some r) ∧ Aside0 (kq ≤ k) ∧ Aside0 (Kd.R Kd.string 9 w' w.heap.size (fun _ => True) v135 t134) ∧ Aside0 (Below w.heap.size w w'))
 case atStart => exact ⟨(0), (by first | rfl | (simp; done) | (simp [*]; done)), H', ⟨Nat.le_refl _⟩, ⟨by (with_reducible repeat (first | apply Kd.R_alloc | apply Kd.R_drewN | apply Kd.R_drew)); exact HO136.out⟩, ⟨by repeat (first | (with_reducible first | exact HB.out | apply below_alloc | apply pw_below_drewN | apply below_drew1) | exact HB.out)⟩⟩
 case round =>
  clear H'
  try clear p2
  try clear c3
  obtain ⟨x4_1, rfl, HA, HK1, HO_3, HB⟩ := hrel
  cases gk with
  | zero => exact absurd HA.out (by simp [laws_tame.l0])
  | succ k1 =>
   have H := HA.out
   clear HA
   simp only [laws_tame.l0] at H
   by_cases c4 : x4_1 < (t134.length : Int)
   ·
    rw [if_pos c4] at H
    have c4b0 : decide (x4_1 < (t134.length : Int)) = true := decide_eq_true c4
    clear c4
    have H' := Aside0.mk H
    clear H
    obtain ⟨Ao5, co5, eo5⟩ := Kd.R_slice HO_3.out
    subst eo5
    go_wp2
    go_loopg [5] k1 (fun kq v5 w' => ∃ (x5_2 : Int), v5 = .int .i64 x5_2 ∧ Aside0 (laws_tame.l1 kq t134 x4_1 x5_2 = some r) ∧ Aside0 (kq ≤ k1) ∧ Aside0 (Kd.R Kd.string 9 w' w.heap.size (fun _ => True) (.slice Ao5 t134.length co5) t134) ∧ Aside0 (Below w.heap.size w w'))
    case atStart => exact ⟨(0), (by first | rfl | (simp; done) | (simp [*]; done)), H', ⟨Nat.le_refl _⟩, ⟨by (with_reducible repeat (first | apply Kd.R_alloc | apply Kd.R_drewN | apply Kd.R_drew)); exact HO_3.out⟩, ⟨by repeat (first | (with_reducible first | exact HB.out | apply below_alloc | apply pw_below_drewN | apply below_drew1) | exact HB.out)⟩⟩
    case round =>
     clear H'
     try clear p2
     try clear c3
     try clear c4
     try clear c4b0
     try clear p2
     obtain ⟨x5_2, rfl, HA, HK2, HO_3, HB⟩ := hrel
     cases gk with
     | zero => exact absurd HA.out (by simp [laws_tame.l1])
     | succ k2 =>
      have H := HA.out
      clear HA
      simp only [laws_tame.l1] at H
      have HC6 := Aside0.mk H
      clear H
      go_upto_region 6 with (fail)
      go_cut [28] (fun v28 wc => ∃ (kq : Nat) (x28_5 : Bool), v28 = .bool x28_5 ∧ Aside0 (laws_tame.j2 kq t134 x4_1 x5_2 x28_5 = some r) ∧ Aside0 (kq ≤ k2) ∧ Aside0 (Kd.R Kd.string 9 wc w.heap.size (fun _ => True) (.slice Ao5 t134.length co5) t134) ∧ Aside0 (Below w.heap.size w wc))
      case first =>
       have H := HC6.out
       clear HC6
       by_cases c7 : 0 ≤ x4_1
       ·
        rw [if_pos c7] at H
        have c7b0 : decide (0 ≤ x4_1) = true := decide_eq_true c7
        clear c7
        (first | rw [c7b0] | (simp only [i64_w, i32_w]; rw [c7b0]) | skip)
        by_cases c8 : x4_1 < (t134.length : Int)
        ·
         rw [if_pos c8] at H
         have c8b0 : decide (x4_1 < (t134.length : Int)) = true := decide_eq_true c8
         clear c8
         by_cases c9 : x5_2 < ((rdOf ByteArray.empty t134 x4_1).size : Int)
         ·
          rw [if_pos c9] at H
          have c9b0 : decide (x5_2 < ((rdOf ByteArray.empty t134 x4_1).size : Int)) = true := decide_eq_true c9
          clear c9
          have H' := Aside0.mk H
          clear H
          have p137 : 0 ≤ (x4_1 : Int) := of_decide_eq_true (by first | (with_reducible assumption) | assumption)
          have q137 : x4_1 < (t134.length : Int) := of_decide_eq_true (by first | (with_reducible assumption) | assumption)
          obtain ⟨ad137, e137, hx137_0⟩ := Kd.at_string (Kd.R_reads' HO_3.out).2.2 x4_1 p137 q137
          cases e137
          replace p137 := eq_true p137
          replace q137 := eq_true q137
          have p138 : 0 ≤ (x4_1 : Int) := of_decide_eq_true (by first | (with_reducible assumption) | assumption)
          have q138 : x4_1 < (t134.length : Int) := of_decide_eq_true (by first | (with_reducible assumption) | assumption)
          obtain ⟨ad138, e138, hx138_0⟩ := Kd.at_string (Kd.R_reads' HO_3.out).2.2 x4_1 p138 q138
          obtain rfl : ad137 = ad138 := (by injection e138)
          replace p138 := eq_true p138
          replace q138 := eq_true q138
          go_wp2
          go_meet
          case rel => exact ⟨_, (decide (((rdOf ByteArray.empty t134 x4_1).size : Int) > 1)), (by first | rfl | (simp; done) | (simp [*]; done)), H', ⟨by have := HK1.out; have := HK2.out; first | omega | exact Nat.le_refl _⟩, ⟨by (with_reducible repeat (first | apply Kd.R_alloc | apply Kd.R_drewN | apply Kd.R_drew)); exact HO_3.out⟩, ⟨by repeat (first | (with_reducible first | exact HB.out | apply below_alloc | apply pw_below_drewN | apply below_drew1) | exact HB.out)⟩⟩
         ·
          rw [if_neg c9] at H
          have c9b0 : decide (x5_2 < ((rdOf ByteArray.empty t134 x4_1).size : Int)) = false := decide_eq_false c9
          clear c9
          have H' := Aside0.mk H
          clear H
          have p137 : 0 ≤ (x4_1 : Int) := of_decide_eq_true (by first | (with_reducible assumption) | assumption)
          have q137 : x4_1 < (t134.length : Int) := of_decide_eq_true (by first | (with_reducible assumption) | assumption)
          obtain ⟨ad137, e137, hx137_0⟩ := Kd.at_string (Kd.R_reads' HO_3.out).2.2 x4_1 p137 q137
          cases e137
          replace p137 := eq_true p137
          replace q137 := eq_true q137
          go_wp2
          go_meet
          case rel => exact ⟨_, (false), (by first | rfl | (simp; done) | (simp [*]; done)), H', ⟨by have := HK1.out; have := HK2.out; first | omega | exact Nat.le_refl _⟩, ⟨by (with_reducible repeat (first | apply Kd.R_alloc | apply Kd.R_drewN | apply Kd.R_drew)); exact HO_3.out⟩, ⟨by repeat (first | (with_reducible first | exact HB.out | apply below_alloc | apply pw_below_drewN | apply below_drew1) | exact HB.out)⟩⟩
        ·
         rw [if_neg c8] at H
         exact absurd H (by simp)
       ·
        rw [if_neg c7] at H
        exact absurd H (by simp)
      case rest =>
       clear HC6
       try clear p1
       try clear q1
       try clear hx1
       try clear p2
       try clear c3
       try clear c4
       try clear c4b0
       try clear c7
       try clear c7b0
       try clear c8
       try clear c8b0
       try clear c9
       try clear c9b0
       try clear hx137_0
       try clear hx138_0
       try clear p137
       try clear p138
       try clear p2
       try clear q137
       try clear q138
       obtain ⟨kq, x28_5, rfl, HA, HJ5, HO_3, HB⟩ := hcut
       cases kq with
       | zero => exact absurd HA.out (by simp [laws_tame.j2])
       | succ kj5 =>
        have H := HA.out
        clear HA
        simp only [laws_tame.j2] at H
        by_cases c10 : x28_5 = true
        ·
         subst c10
         have H1 : (if 0 ≤ x4_1 then (if x4_1 < (t134.length : Int) then (if 0 ≤ x5_2 then (if x5_2 < ((rdOf ByteArray.empty t134 x4_1).size : Int) then (if (bt (rdOf ByteArray.empty t134 x4_1) x5_2) = 42 then (some false) else (if (bt (rdOf ByteArray.empty t134 x4_1) x5_2) = 62 then (some false) else (laws_tame.l1 kj5 t134 x4_1 (wrap64 (x5_2 + 1))))) else (none)) else (none)) else (none)) else (none)) = some r := by rw [if_pos rfl] at H; exact H
         clear H
         have H := H1
         clear H1
         by_cases c11 : 0 ≤ x4_1
         ·
          rw [if_pos c11] at H
          have c11b0 : decide (0 ≤ x4_1) = true := decide_eq_true c11
          clear c11
          by_cases c12 : x4_1 < (t134.length : Int)
          ·
           rw [if_pos c12] at H
           have c12b0 : decide (x4_1 < (t134.length : Int)) = true := decide_eq_true c12
           clear c12
           by_cases c13 : 0 ≤ x5_2
           ·
            rw [if_pos c13] at H
            have c13b0 : decide (0 ≤ x5_2) = true := decide_eq_true c13
            clear c13
            by_cases c14 : x5_2 < ((rdOf ByteArray.empty t134 x4_1).size : Int)
            ·
             rw [if_pos c14] at H
             have c14b0 : decide (x5_2 < ((rdOf ByteArray.empty t134 x4_1).size : Int)) = true := decide_eq_true c14
             clear c14
             by_cases c16 : (bt (rdOf ByteArray.empty t134 x4_1) x5_2) = 42
             ·
              rw [if_pos c16] at H
              have c16b0 : ((bt (rdOf ByteArray.empty t134 x4_1) x5_2) == 42) = true := beq_iff_eq.mpr c16
              have c16b1 : ((bt (rdOf ByteArray.empty t134 x4_1) x5_2) != 42) = false := bne_eq_false_iff_eq.mpr c16
              clear c16
              obtain rfl := Option.some.inj H
              have p139 : 0 ≤ (x4_1 : Int) := of_decide_eq_true (by first | (with_reducible assumption) | assumption)
              have q139 : x4_1 < (t134.length : Int) := of_decide_eq_true (by first | (with_reducible assumption) | assumption)
              obtain ⟨ad139, e139, hx139_0⟩ := Kd.at_string (Kd.R_reads' HO_3.out).2.2 x4_1 p139 q139
              cases e139
              replace p139 := eq_true p139
              replace q139 := eq_true q139
              have p15 : 0 ≤ (x5_2 : Int) := of_decide_eq_true (by first | (with_reducible assumption) | assumption)
              have q15 : x5_2 < ((rdOf ByteArray.empty t134 x4_1).size : Int) := of_decide_eq_true (by first | (with_reducible assumption) | assumption)
              have hx15 := bt_at (rdOf ByteArray.empty t134 x4_1) x5_2
              replace p15 := eq_true p15
              replace q15 := eq_true q15
              go_wp2
              go_ret
              exact ⟨by first | rfl | (simp [errW_none, errW_some] <;> rfl) | (simp [*, errW_none, errW_some] <;> rfl) | (simp [errW_none, errW_some]; generalize ByteArray.toList _ = l_; cases l_ <;> rfl), by repeat (first | (with_reducible first | exact HB.out | apply below_alloc | apply pw_below_drewN | apply below_drew1) | exact HB.out)⟩
             ·
              rw [if_neg c16] at H
              have c16b0 : ((bt (rdOf ByteArray.empty t134 x4_1) x5_2) == 42) = false := beq_eq_false_iff_ne.mpr c16
              have c16b1 : ((bt (rdOf ByteArray.empty t134 x4_1) x5_2) != 42) = true := bne_iff_ne.mpr c16
              by_cases c18 : (bt (rdOf ByteArray.empty t134 x4_1) x5_2) = 62
              ·
               rw [if_pos c18] at H
               have c18b0 : ((bt (rdOf ByteArray.empty t134 x4_1) x5_2) == 62) = true := beq_iff_eq.mpr c18
               have c18b1 : ((bt (rdOf ByteArray.empty t134 x4_1) x5_2) != 62) = false := bne_eq_false_iff_eq.mpr c18
               clear c18
               obtain rfl := Option.some.inj H
               have p139 : 0 ≤ (x4_1 : Int) := of_decide_eq_true (by first | (with_reducible assumption) | assumption)
               have q139 : x4_1 < (t134.length : Int) := of_decide_eq_true (by first | (with_reducible assumption) | assumption)
               obtain ⟨ad139, e139, hx139_0⟩ := Kd.at_string (Kd.R_reads' HO_3.out).2.2 x4_1 p139 q139
               cases e139
               replace p139 := eq_true p139
               replace q139 := eq_true q139
               have p15 : 0 ≤ (x5_2 : Int) := of_decide_eq_true (by first | (with_reducible assumption) | assumption)
               have q15 : x5_2 < ((rdOf ByteArray.empty t134 x4_1).size : Int) := of_decide_eq_true (by first | (with_reducible assumption) | assumption)
               have hx15 := bt_at (rdOf ByteArray.empty t134 x4_1) x5_2
               replace p15 := eq_true p15
               replace q15 := eq_true q15
               have p140 : 0 ≤ (x4_1 : Int) := of_decide_eq_true (by first | (with_reducible assumption) | assumption)
               have q140 : x4_1 < (t134.length : Int) := of_decide_eq_true (by first | (with_reducible assumption) | assumption)
               obtain ⟨ad140, e140, hx140_0⟩ := Kd.at_string (Kd.R_reads' HO_3.out).2.2 x4_1 p140 q140
               obtain rfl : ad139 = ad140 := (by injection e140)
               replace p140 := eq_true p140
               replace q140 := eq_true q140
               have p17 : 0 ≤ (x5_2 : Int) := of_decide_eq_true (by first | (with_reducible assumption) | assumption)
               have q17 : x5_2 < ((rdOf ByteArray.empty t134 x4_1).size : Int) := of_decide_eq_true (by first | (with_reducible assumption) | assumption)
               have hx17 := bt_at (rdOf ByteArray.empty t134 x4_1) x5_2
               replace p17 := eq_true p17
               replace q17 := eq_true q17
               go_wp2
               go_ret
               exact ⟨by first | rfl | (simp [errW_none, errW_some] <;> rfl) | (simp [*, errW_none, errW_some] <;> rfl) | (simp [errW_none, errW_some]; generalize ByteArray.toList _ = l_; cases l_ <;> rfl), by repeat (first | (with_reducible first | exact HB.out | apply below_alloc | apply pw_below_drewN | apply below_drew1) | exact HB.out)⟩
              ·
               rw [if_neg c18] at H
               have c18b0 : ((bt (rdOf ByteArray.empty t134 x4_1) x5_2) == 62) = false := beq_eq_false_iff_ne.mpr c18
               have c18b1 : ((bt (rdOf ByteArray.empty t134 x4_1) x5_2) != 62) = true := bne_iff_ne.mpr c18
               have H' := Aside0.mk H
               clear H
               have p139 : 0 ≤ (x4_1 : Int) := of_decide_eq_true (by first | (with_reducible assumption) | assumption)
               have q139 : x4_1 < (t134.length : Int) := of_decide_eq_true (by first | (with_reducible assumption) | assumption)
               obtain ⟨ad139, e139, hx139_0⟩ := Kd.at_string (Kd.R_reads' HO_3.out).2.2 x4_1 p139 q139
               cases e139
               replace p139 := eq_true p139
               replace q139 := eq_true q139
               have p15 : 0 ≤ (x5_2 : Int) := of_decide_eq_true (by first | (with_reducible assumption) | assumption)
               have q15 : x5_2 < ((rdOf ByteArray.empty t134 x4_1).size : Int) := of_decide_eq_true (by first | (with_reducible assumption) | assumption)
               have hx15 := bt_at (rdOf ByteArray.empty t134 x4_1) x5_2
               replace p15 := eq_true p15
               replace q15 := eq_true q15
               have p140 : 0 ≤ (x4_1 : Int) := of_decide_eq_true (by first | (with_reducible assumption) | assumption)
               have q140 : x4_1 < (t134.length : Int) := of_decide_eq_true (by first | (with_reducible assumption) | assumption)
               obtain ⟨ad140, e140, hx140_0⟩ := Kd.at_string (Kd.R_reads' HO_3.out).2.2 x4_1 p140 q140
               obtain rfl : ad139 = ad140 := (by injection e140)
               replace p140 := eq_true p140
               replace q140 := eq_true q140
               have p17 : 0 ≤ (x5_2 : Int) := of_decide_eq_true (by first | (with_reducible assumption) | assumption)
               have q17 : x5_2 < ((rdOf ByteArray.empty t134 x4_1).size : Int) := of_decide_eq_true (by first | (with_reducible assumption) | assumption)
               have hx17 := bt_at (rdOf ByteArray.empty t134 x4_1) x5_2
               replace p17 := eq_true p17
               replace q17 := eq_true q17
               go_wp2
               go_roundg kj5
               case measure => have := HK1.out; have := HK2.out; have := HJ5.out; omega
               case rel => exact ⟨(wrap64 (x5_2 + 1)), (by first | rfl | (simp; done) | (simp [*]; done)), H', ⟨by have := HK1.out; have := HK2.out; have := HJ5.out; omega⟩, ⟨by (with_reducible repeat (first | apply Kd.R_alloc | apply Kd.R_drewN | apply Kd.R_drew)); exact HO_3.out⟩, ⟨by repeat (first | (with_reducible first | exact HB.out | apply below_alloc | apply pw_below_drewN | apply below_drew1) | exact HB.out)⟩⟩
            ·
             rw [if_neg c14] at H
             exact absurd H (by simp)
           ·
            rw [if_neg c13] at H
            exact absurd H (by simp)
          ·
           rw [if_neg c12] at H
           exact absurd H (by simp)
         ·
          rw [if_neg c11] at H
          exact absurd H (by simp)
        ·
         replace c10 := Bool.eq_false_iff.mpr c10
         subst c10
         have H1 : (laws_tame.l0 kj5 t134 (wrap64 (x4_1 + 1))) = some r := by rw [if_neg (show ¬ (false = true) by decide)] at H; exact H
         clear H
         have H := H1
         clear H1
         have H' := Aside0.mk H
         clear H
         go_wp2
         go_roundg kj5
         case measure => have := HK1.out; have := HK2.out; have := HJ5.out; omega
         case rel => exact ⟨(wrap64 (x4_1 + 1)), (by first | rfl | (simp; done) | (simp [*]; done)), H', ⟨by have := HK1.out; have := HK2.out; have := HJ5.out; omega⟩, ⟨by (with_reducible repeat (first | apply Kd.R_alloc | apply Kd.R_drewN | apply Kd.R_drew)); exact HO_3.out⟩, ⟨by repeat (first | (with_reducible first | exact HB.out | apply below_alloc | apply pw_below_drewN | apply below_drew1) | exact HB.out)⟩⟩
   ·
    rw [if_neg c4] at H
    have c4b0 : decide (x4_1 < (t134.length : Int)) = false := decide_eq_false c4
    clear c4
    obtain rfl := Option.some.inj H
    obtain ⟨Ao19, co19, eo19⟩ := Kd.R_slice HO_3.out
    subst eo19
    go_wp2
    go_ret
    exact ⟨by first | rfl | (simp [errW_none, errW_some] <;> rfl) | (simp [*, errW_none, errW_some] <;> rfl) | (simp [errW_none, errW_some]; generalize ByteArray.toList _ = l_; cases l_ <;> rfl), by repeat (first | (with_reducible first | exact HB.out | apply below_alloc | apply pw_below_drewN | apply below_drew1) | exact HB.out)⟩

/-! ### laws_valid: function 30 -/
def laws_valid.f (k : Nat) (a0 : ByteArray) : Option (Bool) := (laws_clean.f k a0).bind fun t141 => (if t141 = true then ((spec_Valid.f k a0).bind fun t142 => (if t142 = true then ((laws_tame.f k a0).bind fun t143 => (some t143)) else (some false))) else (some false))
theorem laws_valid.mono : ∀ a0 k, LeO (laws_valid.f k a0) (laws_valid.f (k + 1) a0) := by
 intro a0 k
 unfold laws_valid.f
 repeat' first
   | (with_reducible exact laws_clean.mono _ _)
   | (with_reducible exact laws_tame.mono _ _)
   | (with_reducible exact spec_Valid.mono _ _)
   | (with_reducible exact LeO.refl _)
   | (with_reducible exact LeO.none _)
   | (with_reducible refine LeO.ite ?_ ?_)
   | (with_reducible refine LeO.bind ?_ (fun _ => ?_))
   | exact laws_clean.mono _ _
   | exact laws_tame.mono _ _
   | exact spec_Valid.mono _ _
   | exact LeO.none _
   | refine LeO.ite ?_ ?_
   | refine LeO.bind ?_ (fun _ => ?_)
set_option maxHeartbeats 8000000 in
set_option maxRecDepth 100000 in
theorem laws_valid.calls (k : Nat) (a0 : ByteArray) (r : Bool) (w : World) (h : laws_valid.f k a0 = some r) :
  Calls Tryd.prog 30 #[.string a0] w fun e w' => e = .returned (.bool r) ∧ Below w.heap.size w w' := by
 have HB := Aside0.mk (Below.refl w.heap.size w)
 have H : ((laws_clean.f k a0).bind fun t141 => (if t141 = true then ((spec_Valid.f k a0).bind fun t142 => (if t142 = true then ((laws_tame.f k a0).bind fun t143 => (some t143)) else (some false))) else (some false))) = some r := h
 clear h
 replace H := Option.bind_eq_some_iff.mp H
 obtain ⟨t141, A20, H⟩ := H
 replace H : (if t141 = true then ((spec_Valid.f k a0).bind fun t142 => (if t142 = true then ((laws_tame.f k a0).bind fun t143 => (some t143)) else (some false))) else (some false)) = some r := H
 have A2 := Aside0.mk A20
 clear A20
 by_cases c3 : t141 = true
 ·
  subst c3
  have H1 : ((spec_Valid.f k a0).bind fun t142 => (if t142 = true then ((laws_tame.f k a0).bind fun t143 => (some t143)) else (some false))) = some r := by rw [if_pos rfl] at H; exact H
  clear H
  have H := H1
  clear H1
  replace H := Option.bind_eq_some_iff.mp H
  obtain ⟨t142, A40, H⟩ := H
  replace H : (if t142 = true then ((laws_tame.f k a0).bind fun t143 => (some t143)) else (some false)) = some r := H
  have A4 := Aside0.mk A40
  clear A40
  by_cases c5 : t142 = true
  ·
   subst c5
   have H1 : ((laws_tame.f k a0).bind fun t143 => (some t143)) = some r := by rw [if_pos rfl] at H; exact H
   clear H
   have H := H1
   clear H1
   replace H := Option.bind_eq_some_iff.mp H
   obtain ⟨t143, A60, H⟩ := H
   replace H : (some t143) = some r := H
   have A6 := Aside0.mk A60
   clear A60
   obtain rfl := Option.some.inj H
   go_enter Tryd.func30, Tryd.ntmps30
   go_wp2_with (first | ((with_reducible refine gate_callee (f := 42) rfl ?_); refine goesL_ (some 4) rfl rfl Tryd.func42 (by kernel_rfl) rfl #[.string a0] rfl (by (try simp only [List.map_toArray, List.map_cons, List.map_nil]); first | done | rfl | (simp only [List.length_drop, List.length_take]; rfl)) ?_; (with_reducible refine (laws_clean.calls k a0 true _ A2.out).mono ?_); rintro e w' ⟨rfl, ⟨nd, rfl⟩⟩; refine ⟨_, rfl, ?_⟩) | (go_at_call 28; (with_reducible refine (spec_Valid.calls k a0 true _ A4.out).mono ?_); rintro e w7 ⟨rfl, hb⟩; have n0_ := Aside0.mk (below_step (by repeat (first | (with_reducible first | exact HB.out | apply below_alloc | apply pw_below_drewN | apply below_drew1) | exact HB.out)) hb); clear HB; have HB := n0_; clear n0_; (try clear hb); (try clear hb2); (try clear hk); (try clear hi)) | (go_at_call 43; (with_reducible refine (laws_tame.calls k a0 t143 _ A6.out).mono ?_); rintro e w8 ⟨rfl, hb⟩; have n0_ := Aside0.mk (below_step (by repeat (first | (with_reducible first | exact HB.out | apply below_alloc | apply pw_below_drewN | apply below_drew1) | exact HB.out)) hb); clear HB; have HB := n0_; clear n0_; (try clear hb); (try clear hb2); (try clear hk); (try clear hi)))
   go_ret
   exact ⟨by first | rfl | (simp [errW_none, errW_some] <;> rfl) | (simp [*, errW_none, errW_some] <;> rfl) | (simp [errW_none, errW_some]; generalize ByteArray.toList _ = l_; cases l_ <;> rfl), by repeat (first | (with_reducible first | exact HB.out | apply below_alloc | apply pw_below_drewN | apply below_drew1) | exact HB.out)⟩
  ·
   replace c5 := Bool.eq_false_iff.mpr c5
   subst c5
   have H1 : (some false) = some r := by rw [if_neg (show ¬ (false = true) by decide)] at H; exact H
   clear H
   have H := H1
   clear H1
   obtain rfl := Option.some.inj H
   go_enter Tryd.func30, Tryd.ntmps30
   go_wp2_with (first | ((with_reducible refine gate_callee (f := 42) rfl ?_); refine goesL_ (some 4) rfl rfl Tryd.func42 (by kernel_rfl) rfl #[.string a0] rfl (by (try simp only [List.map_toArray, List.map_cons, List.map_nil]); first | done | rfl | (simp only [List.length_drop, List.length_take]; rfl)) ?_; (with_reducible refine (laws_clean.calls k a0 true _ A2.out).mono ?_); rintro e w' ⟨rfl, ⟨nd, rfl⟩⟩; refine ⟨_, rfl, ?_⟩) | (go_at_call 28; (with_reducible refine (spec_Valid.calls k a0 false _ A4.out).mono ?_); rintro e w9 ⟨rfl, hb⟩; have n0_ := Aside0.mk (below_step (by repeat (first | (with_reducible first | exact HB.out | apply below_alloc | apply pw_below_drewN | apply below_drew1) | exact HB.out)) hb); clear HB; have HB := n0_; clear n0_; (try clear hb); (try clear hb2); (try clear hk); (try clear hi)))
   go_ret
   exact ⟨by first | rfl | (simp [errW_none, errW_some] <;> rfl) | (simp [*, errW_none, errW_some] <;> rfl) | (simp [errW_none, errW_some]; generalize ByteArray.toList _ = l_; cases l_ <;> rfl), by repeat (first | (with_reducible first | exact HB.out | apply below_alloc | apply pw_below_drewN | apply below_drew1) | exact HB.out)⟩
 ·
  replace c3 := Bool.eq_false_iff.mpr c3
  subst c3
  have H1 : (some false) = some r := by rw [if_neg (show ¬ (false = true) by decide)] at H; exact H
  clear H
  have H := H1
  clear H1
  obtain rfl := Option.some.inj H
  go_enter Tryd.func30, Tryd.ntmps30
  go_wp2_with (first | ((with_reducible refine gate_callee (f := 42) rfl ?_); refine goesL_ (some 4) rfl rfl Tryd.func42 (by kernel_rfl) rfl #[.string a0] rfl (by (try simp only [List.map_toArray, List.map_cons, List.map_nil]); first | done | rfl | (simp only [List.length_drop, List.length_take]; rfl)) ?_; (with_reducible refine (laws_clean.calls k a0 false _ A2.out).mono ?_); rintro e w' ⟨rfl, ⟨nd, rfl⟩⟩; refine ⟨_, rfl, ?_⟩))
  go_ret
  exact ⟨by first | rfl | (simp [errW_none, errW_some] <;> rfl) | (simp [*, errW_none, errW_some] <;> rfl) | (simp [errW_none, errW_some]; generalize ByteArray.toList _ = l_; cases l_ <;> rfl), by repeat (first | (with_reducible first | exact HB.out | apply below_alloc | apply pw_below_drewN | apply below_drew1) | exact HB.out)⟩

end Go.Proofs.YtcnbnljlopopkaaDoor.PFnListTurned

-- thin
