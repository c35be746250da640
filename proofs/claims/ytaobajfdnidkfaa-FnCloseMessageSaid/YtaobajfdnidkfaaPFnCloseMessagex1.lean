-- Written by hprint.py (this session's program, over the kit's printing program, with this session's own contracts in it). Not trusted: Lean checks it.
import Derived.Test.YtaobajfdnidkfaaPFnCloseMessagex0
namespace Go.Proofs.Ytaobajfdnidkfaa.PFnCloseMessage
open Go.RowKit Go.Proofs.YtaobajfdnidkfaaW.PrintWords Go.Proofs.YtaobajfdnidkfaaW.PrintLast Go.Proofs.YtaobajfdnidkfaaW.PrintMore
attribute [local go_sem] max2_int min2_int max_two min_two max_three min_three max_four min_four   -- for this text's walks alone
set_option linter.unusedVariables false
set_option linter.unusedSimpArgs false

/-! ### laws_clean: function 27 -/
mutual
def laws_clean.l0 : Nat → ByteArray → Int → Option (Bool)
  | 0, _, _ => none
  | k + 1, x0, x3 => if x3 < (x0.size : Int) then (laws_clean.j1 k x0 x3 (decide (x3 ≤ 400))) else (laws_clean.j1 k x0 x3 false)
def laws_clean.j1 : Nat → ByteArray → Int → Bool → Option (Bool)
  | 0, _, _, _ => none
  | k + 1, x0, x3, x11 => if x11 = true then (if 0 ≤ x3 then (if x3 < (x0.size : Int) then (if (bt x0 x3) ≤ 32 then (some false) else (if (bt x0 x3) = 127 then (some false) else (laws_clean.l0 k x0 (wrap64 (x3 + 1))))) else (none)) else (none)) else (some (decide ((x0.size : Int) ≤ 400)))
end
def laws_clean.f (k : Nat) (a0 : ByteArray) : Option (Bool) := laws_clean.l0 k a0 0
theorem laws_clean.mono_l : ∀ k, (∀ y0 y1, LeO (laws_clean.l0 k y0 y1) (laws_clean.l0 (k + 1) y0 y1)) ∧ (∀ y0 y1 y2, LeO (laws_clean.j1 k y0 y1 y2) (laws_clean.j1 (k + 1) y0 y1 y2))
  | 0 => ⟨fun _ _ r h => by simp [laws_clean.l0] at h, fun _ _ _ r h => by simp [laws_clean.j1] at h⟩
  | k + 1 => by
    obtain ⟨ih0, ih1⟩ := laws_clean.mono_l k
    refine ⟨?_, ?_⟩
    · intro y0 y1
      unfold laws_clean.l0
      repeat' first
      | (with_reducible exact ih0 _ _)
      | (with_reducible exact ih1 _ _ _)
      | (with_reducible exact LeO.refl _)
      | (with_reducible exact LeO.none _)
      | (with_reducible refine LeO.ite ?_ ?_)
      | (with_reducible refine LeO.bind ?_ (fun _ => ?_))
      | exact ih0 _ _
      | exact ih1 _ _ _
      | exact LeO.none _
      | refine LeO.ite ?_ ?_
      | refine LeO.bind ?_ (fun _ => ?_)
    · intro y0 y1 y2
      unfold laws_clean.j1
      repeat' first
      | (with_reducible exact ih0 _ _)
      | (with_reducible exact ih1 _ _ _)
      | (with_reducible exact LeO.refl _)
      | (with_reducible exact LeO.none _)
      | (with_reducible refine LeO.ite ?_ ?_)
      | (with_reducible refine LeO.bind ?_ (fun _ => ?_))
      | exact ih0 _ _
      | exact ih1 _ _ _
      | exact LeO.none _
      | refine LeO.ite ?_ ?_
      | refine LeO.bind ?_ (fun _ => ?_)
theorem laws_clean.mono : ∀ a0 k, LeO (laws_clean.f k a0) (laws_clean.f (k + 1) a0) := by
  intro a0 k
  obtain ⟨ih0, ih1⟩ := laws_clean.mono_l k
  unfold laws_clean.f
  repeat' first
      | (with_reducible exact ih0 _ _)
      | (with_reducible exact ih1 _ _ _)
      | (with_reducible exact LeO.refl _)
      | (with_reducible exact LeO.none _)
      | (with_reducible refine LeO.ite ?_ ?_)
      | (with_reducible refine LeO.bind ?_ (fun _ => ?_))
      | exact ih0 _ _
      | exact ih1 _ _ _
      | exact LeO.none _
      | refine LeO.ite ?_ ?_
      | refine LeO.bind ?_ (fun _ => ?_)
set_option maxHeartbeats 8000000 in
set_option maxRecDepth 100000 in
theorem laws_clean.calls (k : Nat) (a0 : ByteArray) (r : Bool) (w : World) (h : laws_clean.f k a0 = some r) :
    Calls Try.prog 27 #[.string a0] w fun e w' => e = .returned (.bool r) ∧ Drawn0 w w' := by
  have H : (laws_clean.l0 k a0 0) = some r := h
  clear h
  have H' := Aside0.mk H
  clear H
  go_enter Try.func27, Try.ntmps27
  go_wp2
  go_loopg [3] k (fun kq v3 w' => ∃ (x3_1 : Int), v3 = .int .i64 x3_1 ∧ Aside0 (laws_clean.l0 kq a0 x3_1 = some r) ∧ Aside0 (kq ≤ k) ∧ Drawn0 w w')
  case atStart => exact ⟨(0), (by first | rfl | (simp; done) | (simp [*]; done)), H', ⟨Nat.le_refl _⟩, by repeat (first | exact Drawn0.refl _ | apply Drawn0.step)⟩
  case round =>
    clear H'
    obtain ⟨x3_1, rfl, HA, HK1, ⟨m1, rfl⟩⟩ := hrel
    cases gk with
    | zero => exact absurd HA.out (by simp [laws_clean.l0])
    | succ k1 =>
      have H := HA.out
      clear HA
      simp only [laws_clean.l0] at H
      have HC2 := Aside0.mk H
      clear H
      go_upto_region 2 with (fail)
      go_cut [11] (fun v11 wc => ∃ (kq : Nat) (x11_1 : Bool), v11 = .bool x11_1 ∧ Aside0 (laws_clean.j1 kq a0 x3_1 x11_1 = some r) ∧ Aside0 (kq ≤ k1) ∧ Drawn0 w wc)
      case first =>
        have H := HC2.out
        clear HC2
        by_cases c3 : x3_1 < (a0.size : Int)
        · rw [if_pos c3] at H
          have c3b0 : decide (x3_1 < (a0.size : Int)) = true := decide_eq_true c3
          clear c3
          (first | rw [c3b0] | (simp only [i64_w, i32_w]; rw [c3b0]) | skip)
          have H' := Aside0.mk H
          clear H
          go_wp2
          go_meet
          case rel => exact ⟨_, (decide (x3_1 ≤ 400)), (by first | rfl | (simp; done) | (simp [*]; done)), H', ⟨by have := HK1.out; first | omega | exact Nat.le_refl _⟩, by repeat (first | exact Drawn0.refl _ | apply Drawn0.step)⟩
        · rw [if_neg c3] at H
          have c3b0 : decide (x3_1 < (a0.size : Int)) = false := decide_eq_false c3
          clear c3
          (first | rw [c3b0] | (simp only [i64_w, i32_w]; rw [c3b0]) | skip)
          have H' := Aside0.mk H
          clear H
          go_wp2
          go_meet
          case rel => exact ⟨_, (false), (by first | rfl | (simp; done) | (simp [*]; done)), H', ⟨by have := HK1.out; first | omega | exact Nat.le_refl _⟩, by repeat (first | exact Drawn0.refl _ | apply Drawn0.step)⟩
      case rest =>
        clear HC2
        try clear c2
        try clear p2
        try clear c3
        try clear c3b0
        obtain ⟨kq, x11_1, rfl, HA, HJ1, ⟨mc1, rfl⟩⟩ := hcut
        cases kq with
        | zero => exact absurd HA.out (by simp [laws_clean.j1])
        | succ kj1 =>
          have H := HA.out
          clear HA
          simp only [laws_clean.j1] at H
          by_cases c4 : x11_1 = true
          · subst c4
            have H1 : (if 0 ≤ x3_1 then (if x3_1 < (a0.size : Int) then (if (bt a0 x3_1) ≤ 32 then (some false) else (if (bt a0 x3_1) = 127 then (some false) else (laws_clean.l0 kj1 a0 (wrap64 (x3_1 + 1))))) else (none)) else (none)) = some r := by rw [if_pos rfl] at H; exact H
            clear H
            have H := H1
            clear H1
            by_cases c5 : 0 ≤ x3_1
            · rw [if_pos c5] at H
              have c5b0 : decide (0 ≤ x3_1) = true := decide_eq_true c5
              clear c5
              by_cases c6 : x3_1 < (a0.size : Int)
              · rw [if_pos c6] at H
                have c6b0 : decide (x3_1 < (a0.size : Int)) = true := decide_eq_true c6
                clear c6
                by_cases c8 : (bt a0 x3_1) ≤ 32
                · rw [if_pos c8] at H
                  have c8b0 : decide ((bt a0 x3_1) ≤ 32) = true := decide_eq_true c8
                  clear c8
                  obtain rfl := Option.some.inj H
                  have p7 : 0 ≤ (x3_1 : Int) := of_decide_eq_true (by first | (with_reducible assumption) | assumption)
                  have q7 : x3_1 < (a0.size : Int) := of_decide_eq_true (by first | (with_reducible assumption) | assumption)
                  have hx7 := bt_at a0 x3_1
                  replace p7 := eq_true p7
                  replace q7 := eq_true q7
                  go_wp2
                  go_ret
                  exact ⟨by first | rfl | (simp; done) | (simp [*]; done), by repeat (first | exact Drawn0.refl _ | apply Drawn0.step)⟩
                · rw [if_neg c8] at H
                  have c8b0 : decide ((bt a0 x3_1) ≤ 32) = false := decide_eq_false c8
                  clear c8
                  by_cases c10 : (bt a0 x3_1) = 127
                  · rw [if_pos c10] at H
                    have c10b0 : ((bt a0 x3_1) == 127) = true := beq_iff_eq.mpr c10
                    have c10b1 : ((bt a0 x3_1) != 127) = false := bne_eq_false_iff_eq.mpr c10
                    clear c10
                    obtain rfl := Option.some.inj H
                    have p7 : 0 ≤ (x3_1 : Int) := of_decide_eq_true (by first | (with_reducible assumption) | assumption)
                    have q7 : x3_1 < (a0.size : Int) := of_decide_eq_true (by first | (with_reducible assumption) | assumption)
                    have hx7 := bt_at a0 x3_1
                    replace p7 := eq_true p7
                    replace q7 := eq_true q7
                    have p9 : 0 ≤ (x3_1 : Int) := of_decide_eq_true (by first | (with_reducible assumption) | assumption)
                    have q9 : x3_1 < (a0.size : Int) := of_decide_eq_true (by first | (with_reducible assumption) | assumption)
                    have hx9 := bt_at a0 x3_1
                    replace p9 := eq_true p9
                    replace q9 := eq_true q9
                    go_wp2
                    go_ret
                    exact ⟨by first | rfl | (simp; done) | (simp [*]; done), by repeat (first | exact Drawn0.refl _ | apply Drawn0.step)⟩
                  · rw [if_neg c10] at H
                    have c10b0 : ((bt a0 x3_1) == 127) = false := beq_eq_false_iff_ne.mpr c10
                    have c10b1 : ((bt a0 x3_1) != 127) = true := bne_iff_ne.mpr c10
                    have H' := Aside0.mk H
                    clear H
                    have p7 : 0 ≤ (x3_1 : Int) := of_decide_eq_true (by first | (with_reducible assumption) | assumption)
                    have q7 : x3_1 < (a0.size : Int) := of_decide_eq_true (by first | (with_reducible assumption) | assumption)
                    have hx7 := bt_at a0 x3_1
                    replace p7 := eq_true p7
                    replace q7 := eq_true q7
                    have p9 : 0 ≤ (x3_1 : Int) := of_decide_eq_true (by first | (with_reducible assumption) | assumption)
                    have q9 : x3_1 < (a0.size : Int) := of_decide_eq_true (by first | (with_reducible assumption) | assumption)
                    have hx9 := bt_at a0 x3_1
                    replace p9 := eq_true p9
                    replace q9 := eq_true q9
                    go_wp2
                    go_roundg kj1
                    case measure => have := HK1.out; have := HJ1.out; omega
                    case rel => exact ⟨(wrap64 (x3_1 + 1)), (by first | rfl | (simp; done) | (simp [*]; done)), H', ⟨by have := HK1.out; have := HJ1.out; omega⟩, by repeat (first | exact Drawn0.refl _ | apply Drawn0.step)⟩
              · rw [if_neg c6] at H
                exact absurd H (by simp)
            · rw [if_neg c5] at H
              exact absurd H (by simp)
          · replace c4 := Bool.eq_false_iff.mpr c4
            subst c4
            have H1 : (some (decide ((a0.size : Int) ≤ 400))) = some r := by rw [if_neg (show ¬ (false = true) by decide)] at H; exact H
            clear H
            have H := H1
            clear H1
            obtain rfl := Option.some.inj H
            go_wp2
            go_ret
            exact ⟨by first | rfl | (simp; done) | (simp [*]; done), by repeat (first | exact Drawn0.refl _ | apply Drawn0.step)⟩

/-! ### laws_sameBytes: function 28 -/
def laws_sameBytes.l0 : Nat → List Int → List Int → Int → Option (Bool)
  | 0, _, _, _ => none
  | k + 1, x0, x1, x5 => if x5 < (x0.length : Int) then (if 0 ≤ x5 then (if x5 < (x1.length : Int) then (if (rd x0 x5) = (rd x1 x5) then (laws_sameBytes.l0 k x0 x1 (wrap64 (x5 + 1))) else (some false)) else (none)) else (none)) else (some true)
def laws_sameBytes.f (k : Nat) (l0 : List Int) (l1 : List Int) : Option (Bool) := if (l0.length : Int) = (l1.length : Int) then (laws_sameBytes.l0 k l0 l1 0) else (some false)
theorem laws_sameBytes.mono_l : ∀ k, (∀ y0 y1 y2, LeO (laws_sameBytes.l0 k y0 y1 y2) (laws_sameBytes.l0 (k + 1) y0 y1 y2))
  | 0 => fun _ _ _ r h => by simp [laws_sameBytes.l0] at h
  | k + 1 => by
    have ih0 := laws_sameBytes.mono_l k
    · intro y0 y1 y2
      unfold laws_sameBytes.l0
      repeat' first
      | (with_reducible exact ih0 _ _ _)
      | (with_reducible exact LeO.refl _)
      | (with_reducible exact LeO.none _)
      | (with_reducible refine LeO.ite ?_ ?_)
      | (with_reducible refine LeO.bind ?_ (fun _ => ?_))
      | exact ih0 _ _ _
      | exact LeO.none _
      | refine LeO.ite ?_ ?_
      | refine LeO.bind ?_ (fun _ => ?_)
theorem laws_sameBytes.mono : ∀ a0 a1 k, LeO (laws_sameBytes.f k a0 a1) (laws_sameBytes.f (k + 1) a0 a1) := by
  intro a0 a1 k
  have ih0 := laws_sameBytes.mono_l k
  unfold laws_sameBytes.f
  repeat' first
      | (with_reducible exact ih0 _ _ _)
      | (with_reducible exact LeO.refl _)
      | (with_reducible exact LeO.none _)
      | (with_reducible refine LeO.ite ?_ ?_)
      | (with_reducible refine LeO.bind ?_ (fun _ => ?_))
      | exact ih0 _ _ _
      | exact LeO.none _
      | refine LeO.ite ?_ ?_
      | refine LeO.bind ?_ (fun _ => ?_)
set_option maxHeartbeats 8000000 in
set_option maxRecDepth 100000 in
theorem laws_sameBytes.calls (k : Nat) (A0 : Option Addr) (c0 : Nat) (l0 : List Int) (A1 : Option Addr) (c1 : Nat) (l1 : List Int) (r : Bool) (w : World) (hr0 : Kd.C (Kd.int .u8) w A0 l0.length l0) (hc0 : l0.length ≤ c0) (hr1 : Kd.C (Kd.int .u8) w A1 l1.length l1) (hc1 : l1.length ≤ c1) (h : laws_sameBytes.f k l0 l1 = some r) :
    Calls Try.prog 28 #[.slice A0 l0.length c0, .slice A1 l1.length c1] w fun e w' => e = .returned (.bool r) ∧ Drawn0 w w' := by
  have HR0 := Aside0.mk hr0
  have HC0 := Aside0.mk hc0
  clear hr0 hc0
  have HR1 := Aside0.mk hr1
  have HC1 := Aside0.mk hc1
  clear hr1 hc1
  have H : (if (l0.length : Int) = (l1.length : Int) then (laws_sameBytes.l0 k l0 l1 0) else (some false)) = some r := h
  clear h
  by_cases c3 : (l0.length : Int) = (l1.length : Int)
  · rw [if_pos c3] at H
    have c3b0 : ((l0.length : Int) == (l1.length : Int)) = true := beq_iff_eq.mpr c3
    have c3b1 : ((l0.length : Int) != (l1.length : Int)) = false := bne_eq_false_iff_eq.mpr c3
    have c3b2 : (l0.length == l1.length) = true := by first | simpa using c3 | (simp at c3 ⊢; omega)
    clear c3
    have H' := Aside0.mk H
    clear H
    go_enter Try.func28, Try.ntmps28
    go_wp2
    repeat (go_quiet (fail); try go_wp2)
    go_loopg [5] k (fun kq v5 w' => ∃ (x5_1 : Int), v5 = .int .i64 x5_1 ∧ Aside0 (laws_sameBytes.l0 kq l0 l1 x5_1 = some r) ∧ Aside0 (kq ≤ k) ∧ Drawn0 w w')
    case atStart => exact ⟨(0), (by first | rfl | (simp; done) | (simp [*]; done)), H', ⟨Nat.le_refl _⟩, by repeat (first | exact Drawn0.refl _ | apply Drawn0.step)⟩
    case round =>
      clear H'
      try clear c1
      try clear c2
      try clear p2
      try clear c3
      try clear c3b0
      try clear c3b1
      try clear c3b2
      obtain ⟨x5_1, rfl, HA, HK1, ⟨m1, rfl⟩⟩ := hrel
      cases gk with
      | zero => exact absurd HA.out (by simp [laws_sameBytes.l0])
      | succ k1 =>
        have H := HA.out
        clear HA
        simp only [laws_sameBytes.l0] at H
        by_cases c4 : x5_1 < (l0.length : Int)
        · rw [if_pos c4] at H
          have c4b0 : decide (x5_1 < (l0.length : Int)) = true := decide_eq_true c4
          clear c4
          by_cases c5 : 0 ≤ x5_1
          · rw [if_pos c5] at H
            have c5b0 : decide (0 ≤ x5_1) = true := decide_eq_true c5
            clear c5
            by_cases c6 : x5_1 < (l1.length : Int)
            · rw [if_pos c6] at H
              have c6b0 : decide (x5_1 < (l1.length : Int)) = true := decide_eq_true c6
              clear c6
              by_cases c7 : (rd l0 x5_1) = (rd l1 x5_1)
              · rw [if_pos c7] at H
                have c7b0 : ((rd l0 x5_1) == (rd l1 x5_1)) = true := beq_iff_eq.mpr c7
                have c7b1 : ((rd l0 x5_1) != (rd l1 x5_1)) = false := bne_eq_false_iff_eq.mpr c7
                clear c7
                have H' := Aside0.mk H
                clear H
                have p101 : 0 ≤ (x5_1 : Int) := of_decide_eq_true (by first | (with_reducible assumption) | assumption)
                have q101 : x5_1 < (l0.length : Int) := of_decide_eq_true (by first | (with_reducible assumption) | assumption)
                obtain ⟨ad101, e101, hx101_0⟩ := Kd.at_int HR0.out x5_1 p101 q101
                cases e101
                replace p101 := eq_true p101
                replace q101 := eq_true q101
                have p102 : 0 ≤ (x5_1 : Int) := of_decide_eq_true (by first | (with_reducible assumption) | assumption)
                have q102 : x5_1 < (l1.length : Int) := of_decide_eq_true (by first | (with_reducible assumption) | assumption)
                obtain ⟨ad102, e102, hx102_0⟩ := Kd.at_int HR1.out x5_1 p102 q102
                cases e102
                replace p102 := eq_true p102
                replace q102 := eq_true q102
                go_wp2
                repeat (go_quiet (fail); try go_wp2)
                go_roundg k1
                case measure => have := HK1.out; omega
                case rel => exact ⟨(wrap64 (x5_1 + 1)), (by first | rfl | (simp; done) | (simp [*]; done)), H', ⟨by have := HK1.out; omega⟩, by repeat (first | exact Drawn0.refl _ | apply Drawn0.step)⟩
              · rw [if_neg c7] at H
                have c7b0 : ((rd l0 x5_1) == (rd l1 x5_1)) = false := beq_eq_false_iff_ne.mpr c7
                have c7b1 : ((rd l0 x5_1) != (rd l1 x5_1)) = true := bne_iff_ne.mpr c7
                obtain rfl := Option.some.inj H
                have p101 : 0 ≤ (x5_1 : Int) := of_decide_eq_true (by first | (with_reducible assumption) | assumption)
                have q101 : x5_1 < (l0.length : Int) := of_decide_eq_true (by first | (with_reducible assumption) | assumption)
                obtain ⟨ad101, e101, hx101_0⟩ := Kd.at_int HR0.out x5_1 p101 q101
                cases e101
                replace p101 := eq_true p101
                replace q101 := eq_true q101
                have p102 : 0 ≤ (x5_1 : Int) := of_decide_eq_true (by first | (with_reducible assumption) | assumption)
                have q102 : x5_1 < (l1.length : Int) := of_decide_eq_true (by first | (with_reducible assumption) | assumption)
                obtain ⟨ad102, e102, hx102_0⟩ := Kd.at_int HR1.out x5_1 p102 q102
                cases e102
                replace p102 := eq_true p102
                replace q102 := eq_true q102
                go_wp2
                repeat (go_quiet (fail); try go_wp2)
                go_ret
                exact ⟨by first | rfl | (simp; done) | (simp [*]; done), by repeat (first | exact Drawn0.refl _ | apply Drawn0.step)⟩
            · rw [if_neg c6] at H
              exact absurd H (by simp)
          · rw [if_neg c5] at H
            exact absurd H (by simp)
        · rw [if_neg c4] at H
          have c4b0 : decide (x5_1 < (l0.length : Int)) = false := decide_eq_false c4
          clear c4
          obtain rfl := Option.some.inj H
          go_wp2
          repeat (go_quiet (fail); try go_wp2)
          go_ret
          exact ⟨by first | rfl | (simp; done) | (simp [*]; done), by repeat (first | exact Drawn0.refl _ | apply Drawn0.step)⟩
  · rw [if_neg c3] at H
    have c3b0 : ((l0.length : Int) == (l1.length : Int)) = false := beq_eq_false_iff_ne.mpr c3
    have c3b1 : ((l0.length : Int) != (l1.length : Int)) = true := bne_iff_ne.mpr c3
    have c3b2 : (l0.length == l1.length) = false := by first | simpa using c3 | (simp at c3 ⊢; omega)
    obtain rfl := Option.some.inj H
    go_enter Try.func28, Try.ntmps28
    go_wp2
    repeat (go_quiet (fail); try go_wp2)
    go_ret
    exact ⟨by first | rfl | (simp; done) | (simp [*]; done), by repeat (first | exact Drawn0.refl _ | apply Drawn0.step)⟩

-- NOT PRINTED: function 72 (binary_bigEndian_PutUint16)

/-! ### server_wsCreateCloseMessage: function 63 -/
theorem load_bigEndian : ∀ w : World, (Instr.loadAt 63 (.pointer (some ⟨0, 0, none⟩))).run Try.prog w = .ok (.agg #[]) w := fun w => by kernel_rfl
def server_wsCreateCloseMessage.f (a0 : Int) (a1 : ByteArray) : Option (List Int) := if 0 ≤ a0 ∧ a0 ≤ 65535 ∧ a1.size ≤ 123 then some (a0 / 256 :: a0 % 256 :: bytesOf a1) else none
set_option maxHeartbeats 8000000 in
set_option maxRecDepth 100000 in
theorem put16.walk (g n c : Nat) (v : Int) (hv0 : 0 ≤ v) (hv1 : v ≤ 65535) (x0 x1 : Value) (w : World) (hn : 2 ≤ n)
    (c0 : w.cell? ⟨g, 0, none⟩ = some x0) (c1 : w.cell? ⟨g, 1, none⟩ = some x1) (f0 : w.frozen? ⟨g, 0, none⟩ = false) (f1 : w.frozen? ⟨g, 1, none⟩ = false) :
    Calls Try.prog 72 #[.agg #[], .slice (some ⟨g, 0, none⟩) n c, .int .u16 v] w fun e w' => e = .returned (.tuple #[]) ∧ w' = ((w.alloc (.cells #[] 63)).setCell ⟨g, 0, none⟩ (.int .u8 (v / 256))).setCell ⟨g, 1, none⟩ (.int .u8 (v % 256)) := by
  have d0 := cell?_alloc_old (.cells #[] 63) c0
  have fa0 := (frozen?_alloc_cells w #[] 63 ⟨g, 0, none⟩).trans f0
  have d1 := cell?_alloc_old (.cells #[] 63) c1
  have fa1 := (frozen?_alloc_cells w #[] 63 ⟨g, 1, none⟩).trans f1
  go_enter Try.func72, Try.ntmps72
  go_wp2
  go_end0
  exact ⟨rfl, rfl⟩
theorem close_row (w5 : World) (g m : Nat) (cur : Array Value) (r : List Int) (hg : w5.heap[g]? = some (.cells cur 5 (0, 0))) (hc : cur.toList = nums .u8 r) (hm : m = r.length) (hl : m ≤ 2147483647) :
    Kd.R (Kd.int .u8) 5 w5 g (fun _ => True) (.slice (some ⟨g, 0, none⟩) m m) r := by
  subst hm
  refine Kd.R_of_own (enc := Value.int .u8) ⟨by simp [encs], .inr ⟨g, r.length, cur, rfl, Nat.le_refl _, hg, Nat.le_refl _, by unfold maxLen; omega, ?_, ?_⟩⟩ (fun _ _ => trivial)
  · have := congrArg List.length hc
    simpa [nums] using this
  · rw [hc, Nat.mul_one, List.take_of_length_le (by simp [nums])]
    rfl
theorem close_bytes (a1 : ByteArray) : (bytesOf a1).length = a1.size := by simp [bytesOf]
set_option maxHeartbeats 8000000 in
set_option maxRecDepth 100000 in
theorem server_wsCreateCloseMessage.calls (a0 : Int) (a1 : ByteArray) (r : List Int) (w : World) (h : server_wsCreateCloseMessage.f a0 a1 = some r) :
    Calls Try.prog 63 #[.int .i64 a0, .string a1] w fun e w' => ∃ v0_ : Value, e = .returned (v0_) ∧ Kd.R (Kd.int .u8) 5 w' w.heap.size (fun _ => True) v0_ r ∧ Below w.heap.size w w' := by
  unfold server_wsCreateCloseMessage.f at h
  split at h
  · rename_i hs
    obtain rfl := Option.some.inj h
    clear h
    obtain ⟨h0, h1, h2⟩ := hs
    have H0 := Aside0.mk h0
    have H1 := Aside0.mk h1
    have H2 := Aside0.mk h2
    have c0b0 : decide ((123 : Int) < (a1.size : Int)) = false := decide_eq_false (by omega)
    have cn := eq_false (show ¬ 123 < a1.size by omega)
    obtain ⟨m, hm⟩ : ∃ m, m = 2 + a1.size := ⟨_, rfl⟩
    have hw : wrap64 (2 + (a1.size : Int)) = (m : Int) := by unfold wrap64; omega
    have HM := Aside0.mk hm
    have hmk := print_make (P := Try.prog) 29 5 .u8 1 Try.underlying29 (by kernel_rfl) (by decide) m (by omega)
    have m2 := eq_true (show 2 ≤ m by omega)
    have m3 := eq_true (show (2 : Int) ≤ (m : Int) by omega)
    have v0 : a0 % 65536 = a0 := by omega
    clear h0 h1 h2 hm
    have hld := load_bigEndian
    go_enter Try.func63, Try.ntmps63
    go_wp2
    go_still_tail 5, (by kernel_rfl)
    change wpList _ _ _ _ _ (w.alloc (.cells (madeCells #[.int .u8 0] m) 5)).drew
    have hv : IntKind.u16.wrap a0 = a0 := by
      have h0 := H0.out
      have h1 := H1.out
      show a0 % 65536 = a0
      omega
    rw [hv]
    have hg0 : (w.alloc (.cells (madeCells #[.int .u8 0] m) 5)).drew.heap[w.heap.size]? = some (.cells (madeCells #[.int .u8 0] m) 5 (0, 0)) := heap_alloc_new w _
    have hcur : (madeCells #[Value.int .u8 0] m).toList = List.replicate m (Value.int .u8 0) := by
      apply List.ext_getElem
      · simp [madeCells]
      · intro i h1 h2
        simp [madeCells, Nat.mod_one]
    have hsz : (madeCells #[Value.int .u8 0] m).size = m := by simp [size_madeCells]
    go_wp2_with fail
    refine (put16.walk w.heap.size 2 m a0 H0.out H1.out (.int .u8 0) (.int .u8 0) _ (by omega) ?_ ?_ ?_ ?_).mono ?_
    rotate_left 4
    rintro e w3 ⟨rfl, hw3⟩
    obtain ⟨cur3, hg3, hc3⟩ : ∃ cur3, w3.heap[w.heap.size]? = some (.cells cur3 5 (0, 0)) ∧ cur3.toList = nums .u8 (a0 / 256 :: a0 % 256 :: List.replicate a1.size 0) := by
      have e1 : ((w.alloc (.cells (madeCells #[.int .u8 0] m) 5)).drew.alloc (.cells #[] 63)).heap[w.heap.size]? = some (.cells (madeCells #[.int .u8 0] m) 5 (0, 0)) := by
        rw [Below.heap_alloc _ _ _ (by exact (Array.getElem?_eq_some_iff.1 hg0).1)]
        exact hg0
      rw [hw3, setCell_eq_setRow _ w.heap.size 0 _ 5 (0, 0) _ e1, setCell_eq_setRow _ w.heap.size 1 _ 5 (0, 0) _ (setRow_heap _ w.heap.size _ _ _ _ e1)]
      refine ⟨_, setRow_heap _ w.heap.size _ _ _ _ (setRow_heap _ w.heap.size _ _ _ _ e1), ?_⟩
      rw [Array.toList_setIfInBounds, Array.toList_setIfInBounds, hcur, HM.out, Nat.add_comm 2, List.replicate_succ, List.replicate_succ]
      simp [nums]
    have hb3 : Below w.heap.size w w3 := by
      have e1 : ((w.alloc (.cells (madeCells #[.int .u8 0] m) 5)).drew.alloc (.cells #[] 63)).heap[w.heap.size]? = some (.cells (madeCells #[.int .u8 0] m) 5 (0, 0)) := by
        rw [Below.heap_alloc _ _ _ (by exact (Array.getElem?_eq_some_iff.1 hg0).1)]
        exact hg0
      rw [hw3, setCell_eq_setRow _ w.heap.size 0 _ 5 (0, 0) _ e1, setCell_eq_setRow _ w.heap.size 1 _ 5 (0, 0) _ (setRow_heap _ w.heap.size _ _ _ _ e1)]
      exact below_setRow (below_setRow (below_alloc (below_drew (below_alloc (Below.refl _ _) _)) _) (Nat.le_refl _) _) (Nat.le_refl _) _
    have hsz3 : w.heap.size < w3.heap.size := (Array.getElem?_eq_some_iff.1 hg3).1
    have HG := Aside0.mk hg3
    have HC := Aside0.mk hc3
    have HB := Aside0.mk hb3
    clear hg3 hc3 hb3 hw3 hg0 hcur hsz
    have kb := print_bytes (P := Try.prog) 9 29 5 Try.underlying9 Try.underlying29 Try.underlying5 a1 w3
    have hg4 : (Lib.bytesWorld w3 5 a1).heap[w.heap.size]? = some (.cells cur3 5 (0, 0)) := by
      rw [Lib.bytesWorld_at_old w3 5 a1 w.heap.size hsz3]
      exact HG.out
    have hbl : (bytesOf a1).length = a1.size := close_bytes a1
    have hcl : cur3.size = m := by
      have := congrArg List.length HC.out
      simp [nums] at this
      have := HM.out
      omega
    have hsrc : ∀ j v, (nums .u8 (bytesOf a1))[j]? = some v → (Lib.bytesWorld w3 5 a1).cell? ((⟨w3.heap.size, 0, none⟩ : Addr).add j) = some v := by
      intro j v hv
      have hj : j < a1.size := by
        have := (List.getElem?_eq_some_iff.1 hv).1
        simpa [nums, hbl] using this
      have h' : j < a1.data.toList.length := by rw [data_length]; exact hj
      rw [add_plain, Lib.bytesWorld_cell w3 5 a1 j hj, ← hv]
      simp [nums, bytesOf, List.getD_eq_getElem?_getD, List.getElem?_eq_getElem h']
    by_cases hm2 : m = 2
    · have k1 := run_copy_row (P := Try.prog) (Lib.bytesWorld w3 5 a1) 29 29 3 5 w.heap.size 0 0 0 ⟨w3.heap.size, 0, none⟩ a1.size (grownCap w3 a1.size 0 5) cur3 5 [] Try.underlying29 (by kernel_rfl) hg4 (by simp) (by simp) (by simp) (by simp)
      have z0 : a1.size = 0 := by have := HM.out; omega
      subst hm2
      clear hbl hcl hsrc
      have Z0 := Aside0.mk z0
      clear z0
      go_wp2_with fail
      go_ret
      refine ⟨_, rfl, ?_, ?_⟩
      · refine close_row _ _ _ _ _ (setRow_heap _ _ _ _ _ _ hg4) ?_ ?_ ?_
        · have hb0 : bytesOf a1 = [] := List.eq_nil_of_length_eq_zero (by rw [close_bytes]; exact Z0.out)
          simp [HC.out, nums, Z0.out, hb0]
        · have hb0 : bytesOf a1 = [] := List.eq_nil_of_length_eq_zero (by rw [close_bytes]; exact Z0.out)
          rw [hb0]
          rfl
        · omega
      · exact below_setRow (bytes_below HB.out (Nat.le_of_lt hsz3) _ _) (Nat.le_refl _) _
    · have hm3 := HM.out
      have hnl : (nums .u8 (bytesOf a1)).length = a1.size := by simp [nums, hbl]
      have hmin : (nums .u8 (bytesOf a1)).length = Nat.min a1.size (m - 2) := by
        rw [hnl]
        show a1.size = min a1.size (m - 2)
        omega
      have k2 := run_copy_row (P := Try.prog) (Lib.bytesWorld w3 5 a1) 29 29 3 5 w.heap.size 2 (m - 2) (m - 2) ⟨w3.heap.size, 0, none⟩ a1.size (grownCap w3 a1.size 0 5) cur3 5 (nums .u8 (bytesOf a1)) Try.underlying29 (by kernel_rfl) hg4 hmin hsrc (by rw [hnl]; omega) (by intro v hv; simp [nums] at hv; obtain ⟨x, _, rfl⟩ := hv; rfl)
      rw [hnl] at k2
      have n2 := eq_false hm2
      clear hm3 hnl hmin hbl hcl hsrc hm2
      go_wp2_with fail
      go_ret
      refine ⟨_, rfl, ?_, ?_⟩
      · refine close_row _ _ _ _ _ (setRow_heap _ _ _ _ _ _ hg4) ?_ ?_ ?_
        · rw [HC.out, show 2 + a1.size = a1.size + 1 + 1 from by omega]
          simp [nums, close_bytes]
        · have := HM.out
          simp [close_bytes]
          omega
        · have := HM.out
          have := H2.out
          omega
      · exact below_setRow (bytes_below HB.out (Nat.le_of_lt hsz3) _ _) (Nat.le_refl _) _
    · rw [cell_of_row _ w.heap.size 0 _ _ _ hg0, ← Array.getElem?_toList, hcur, HM.out, Nat.add_comm, List.replicate_succ]
      rfl
    · rw [cell_of_row _ w.heap.size 1 _ _ _ hg0, ← Array.getElem?_toList, hcur, HM.out, Nat.add_comm, List.replicate_succ, List.replicate_succ]
      rfl
    · unfold World.frozen?
      simp only []
      rw [hg0]
      rfl
    · unfold World.frozen?
      simp only []
      rw [hg0]
      rfl
  · exact absurd h (by simp)


/-! ### server_CloseMessage: function 49 -/
def server_CloseMessage.f (a0 : Int) (a1 : ByteArray) : Option (List Int) := (server_wsCreateCloseMessage.f a0 a1).bind fun t103 => (some t103)
set_option maxHeartbeats 8000000 in
set_option maxRecDepth 100000 in
theorem server_CloseMessage.calls (a0 : Int) (a1 : ByteArray) (r : List Int) (w : World) (h : server_CloseMessage.f a0 a1 = some r) :
    Calls Try.prog 49 #[.int .i64 a0, .string a1] w fun e w' => ∃ v0_ : Value, e = .returned (v0_) ∧ Kd.R (Kd.int .u8) 5 w' w.heap.size (fun _ => True) v0_ r ∧ Below w.heap.size w w' := by
  have HB := Aside0.mk (Below.refl w.heap.size w)
  have H : ((server_wsCreateCloseMessage.f a0 a1).bind fun t103 => (some t103)) = some r := h
  clear h
  replace H := Option.bind_eq_some_iff.mp H
  obtain ⟨t103, A30, H⟩ := H
  replace H : (some t103) = some r := H
  have A3 := Aside0.mk A30
  clear A30
  obtain rfl := Option.some.inj H
  go_enter Try.func49, Try.ntmps49
  go_wp2_with (first | ((with_reducible refine gate_callee (f := 63) rfl ?_); refine goesL_ (some 7) rfl rfl Try.func63 (by kernel_rfl) rfl #[.int .i64 a0, .string a1] rfl (by (try simp only [List.map_toArray, List.map_cons, List.map_nil]); first | done | rfl | (simp only [List.length_drop, List.length_take]; rfl)) ?_; (with_reducible refine (server_wsCreateCloseMessage.calls a0 a1 t103 _ A3.out).mono ?_); rintro e w4 ⟨v104, rfl, ho0, hb⟩; refine ⟨_, rfl, ?_⟩; have n0_ := Aside0.mk (Kd.R_lower ho0 (below_size (by repeat (first | (with_reducible first | exact HB.out | apply below_alloc | apply pw_below_drewN | apply below_drew1) | exact HB.out)))); have n1_ := Aside0.mk (below_step (by repeat (first | (with_reducible first | exact HB.out | apply below_alloc | apply pw_below_drewN | apply below_drew1) | exact HB.out)) hb); clear HB; have HO105 := n0_; have HB := n1_; clear n0_ n1_; (try clear hb); (try clear hb2); (try clear hk); (try clear hi); (try clear ho0)))
  go_ret
  exact ⟨_, by first | rfl | (simp [errW_none, errW_some] <;> rfl) | (simp [*, errW_none, errW_some] <;> rfl), by (with_reducible repeat (first | apply Kd.R_alloc | apply Kd.R_drewN | apply Kd.R_drew)); exact HO105.out, by repeat (first | (with_reducible first | exact HB.out | apply below_alloc | apply pw_below_drewN | apply below_drew1) | exact HB.out)⟩

/-! ### impl_CloseMessage: function 29 -/
def impl_CloseMessage.f (a0 : Int) (a1 : ByteArray) : Option (List Int) := (server_CloseMessage.f a0 a1).bind fun t106 => (some t106)
set_option maxHeartbeats 8000000 in
set_option maxRecDepth 100000 in
theorem impl_CloseMessage.calls (a0 : Int) (a1 : ByteArray) (r : List Int) (w : World) (h : impl_CloseMessage.f a0 a1 = some r) :
    Calls Try.prog 29 #[.int .i64 a0, .string a1] w fun e w' => ∃ v0_ : Value, e = .returned (v0_) ∧ Kd.R (Kd.int .u8) 5 w' w.heap.size (fun _ => True) v0_ r ∧ Below w.heap.size w w' := by
  have HB := Aside0.mk (Below.refl w.heap.size w)
  have H : ((server_CloseMessage.f a0 a1).bind fun t106 => (some t106)) = some r := h
  clear h
  replace H := Option.bind_eq_some_iff.mp H
  obtain ⟨t106, A30, H⟩ := H
  replace H : (some t106) = some r := H
  have A3 := Aside0.mk A30
  clear A30
  obtain rfl := Option.some.inj H
  go_enter Try.func29, Try.ntmps29
  go_wp2_with (first | ((with_reducible refine gate_callee (f := 49) rfl ?_); refine goesL_ (some 7) rfl rfl Try.func49 (by kernel_rfl) rfl #[.int .i64 a0, .string a1] rfl (by (try simp only [List.map_toArray, List.map_cons, List.map_nil]); first | done | rfl | (simp only [List.length_drop, List.length_take]; rfl)) ?_; (with_reducible refine (server_CloseMessage.calls a0 a1 t106 _ A3.out).mono ?_); rintro e w4 ⟨v107, rfl, ho0, hb⟩; refine ⟨_, rfl, ?_⟩; have n0_ := Aside0.mk (Kd.R_lower ho0 (below_size (by repeat (first | (with_reducible first | exact HB.out | apply below_alloc | apply pw_below_drewN | apply below_drew1) | exact HB.out)))); have n1_ := Aside0.mk (below_step (by repeat (first | (with_reducible first | exact HB.out | apply below_alloc | apply pw_below_drewN | apply below_drew1) | exact HB.out)) hb); clear HB; have HO108 := n0_; have HB := n1_; clear n0_ n1_; (try clear hb); (try clear hb2); (try clear hk); (try clear hi); (try clear ho0)))
  go_ret
  exact ⟨_, by first | rfl | (simp [errW_none, errW_some] <;> rfl) | (simp [*, errW_none, errW_some] <;> rfl), by (with_reducible repeat (first | apply Kd.R_alloc | apply Kd.R_drewN | apply Kd.R_drew)); exact HO108.out, by repeat (first | (with_reducible first | exact HB.out | apply below_alloc | apply pw_below_drewN | apply below_drew1) | exact HB.out)⟩

/-! ### spec_CloseBytes: function 30 -/
def spec_CloseBytes.f (a0 : Int) (a1 : ByteArray) : Option (List Int) := (some (([(a0 / 256) % 256, (a0) % 256] : List Int) : List Int)).bind fun y109 => (if y109.length + a1.size < 140737488355328 then (some (y109 ++ bytesOf a1)) else (none))
set_option maxHeartbeats 8000000 in
set_option maxRecDepth 100000 in
theorem spec_CloseBytes.calls (a0 : Int) (a1 : ByteArray) (r : List Int) (w : World) (h : spec_CloseBytes.f a0 a1 = some r) :
    Calls Try.prog 30 #[.int .i64 a0, .string a1] w fun e w' => ∃ v0_ : Value, e = .returned (v0_) ∧ Kd.R (Kd.int .u8) 5 w' w.heap.size (fun _ => True) v0_ r ∧ Below w.heap.size w w' := by
  have HB := Aside0.mk (Below.refl w.heap.size w)
  have H : ((some (([(a0 / 256) % 256, (a0) % 256] : List Int) : List Int)).bind fun y109 => (if y109.length + a1.size < 140737488355328 then (some (y109 ++ bytesOf a1)) else (none))) = some r := h
  clear h
  obtain ⟨y109, hy109⟩ : ∃ y_ : List Int, y_ = (([(a0 / 256) % 256, (a0) % 256] : List Int)) := ⟨_, rfl⟩
  replace H : (if y109.length + a1.size < 140737488355328 then (some (y109 ++ bytesOf a1)) else (none)) = some r := by first | (rw [hy109]; with_reducible exact H) | (have H2_ := (Option.bind_some _ _).symm.trans H; rw [hy109]; with_reducible exact H2_) | (have H2_ := (Option.bind_some _ _).symm.trans H; with_reducible exact H2_) | with_reducible exact H | (rw [hy109]; exact H) | exact H
  have Ny109 := Aside0.mk hy109
  clear hy109
  by_cases c3 : y109.length + a1.size < 140737488355328
  · rw [if_pos c3] at H
    have LMc3 := Aside0.mk c3
    clear c3
    obtain ⟨y112, hy112⟩ : ∃ y_ : List Int, y_ = (y109 ++ bytesOf a1) := ⟨_, rfl⟩
    replace H : (some y112) = some r := by first | (rw [hy112]; with_reducible exact H) | (have H2_ := (Option.bind_some _ _).symm.trans H; rw [hy112]; with_reducible exact H2_) | (have H2_ := (Option.bind_some _ _).symm.trans H; with_reducible exact H2_) | with_reducible exact H | (rw [hy112]; exact H) | exact H
    have Ny112 := Aside0.mk hy112
    clear hy112
    obtain rfl := Option.some.inj H
    go_enter Try.func30, Try.ntmps30
    go_wp2_with (first | ((with_reducible refine gate_dst (N := 10) rfl ?_); refine Kd.R_lit (Kd.int .u8) _ 5 ?hg (N := 10) ?hd (xs := ([(a0 / 256) % 256, (a0) % 256] : List Int)) (inner := [.int .u8 ((a0 / 256) % 256), .int .u8 ((a0) % 256)]) (ok := fun _ => True) (okp := fun _ => True) ?hr ?hp (fun _ hk => hk) trivial (Below.refl _ _) (Nat.le_refl _) (by simp) ?_; (case hd => rfl); (case hg => rfl); (case hr => first | (go_simp; done) | (go_simp; rfl)); (case hp => exact (Reps.one (show Kd.M (Kd.int .u8) _ _ _ ((a0 / 256) % 256) [.int .u8 ((a0 / 256) % 256)] from rfl) (Reps.one (show Kd.M (Kd.int .u8) _ _ _ ((a0) % 256) [.int .u8 ((a0) % 256)] from rfl) (Reps.none _ _)))); intro v110 w4 ho5 hb hg_ hnew_; clear hg_ hnew_; (first | rw [← Ny109.out] at ho5 | (simp only [Int.reduceToNat] at ho5; rw [← Ny109.out] at ho5)); have n0_ := Aside0.mk (Kd.R_lower ho5 (below_size (by repeat (first | (with_reducible first | exact HB.out | apply below_alloc | apply pw_below_drewN | apply below_drew1) | exact HB.out)))); have n1_ := Aside0.mk (below_step (by repeat (first | (with_reducible first | exact HB.out | apply below_alloc | apply pw_below_drewN | apply below_drew1) | exact HB.out)) hb); clear HB; have HO111 := n0_; have HB := n1_; clear n0_ n1_; clear hb ho5) | (at_builtin; refine print_append_str (w0 := w) w.heap.size rfl (.tmp 10) _ 29 9 5 rfl Try.underlying29 Try.underlying9 info5 v110 y109 a1 rfl rfl ?aO ?aB ?aS ?aL ?_; (case aB => exact (by repeat (first | (with_reducible first | exact HB.out | apply below_alloc | apply pw_below_drewN | apply below_drew1) | exact HB.out))); (case aO => exact (Kd.own_of_R (by (with_reducible repeat (first | apply Kd.R_alloc | apply Kd.R_drewN | apply Kd.R_drew)); exact HO111.out))); (case aS => exact (below_size (by repeat (first | (with_reducible first | exact HB.out | apply below_alloc | apply pw_below_drewN | apply below_drew1) | exact HB.out)))); (case aL => have := LMc3.out; omega); intro v113 w6 ho0 hb hg; have ho := Kd.R_of_own (h1 := fun _ => rfl) (ok := fun _ => True) ho0 (fun _ _ => trivial); clear ho0; have hat := True.intro; rw [← Ny112.out] at ho; change Kd.R (Kd.int .u8) 5 w6 w.heap.size (fun _ => True) v113 y112 at ho; have n0_ := Aside0.mk (hb); have n1_ := Aside0.mk (ho); clear HB; clear HO111; have HB := n0_; have HO114 := n1_; clear n0_ n1_; clear ho hb hg hat))
    go_ret
    exact ⟨_, by first | rfl | (simp [errW_none, errW_some] <;> rfl) | (simp [*, errW_none, errW_some] <;> rfl), by (with_reducible repeat (first | apply Kd.R_alloc | apply Kd.R_drewN | apply Kd.R_drew)); exact HO114.out, by repeat (first | (with_reducible first | exact HB.out | apply below_alloc | apply pw_below_drewN | apply below_drew1) | exact HB.out)⟩
  · rw [if_neg c3] at H
    exact absurd H (by simp)

/-! ### laws_FnCloseMessage: function 10 -/
def laws_FnCloseMessage.j0 : Nat → Int → ByteArray → Bool → Option (Bool)
  | 0, _, _, _ => none
  | k + 1, x0, x1, x23 => if x23 = true then (some true) else ((impl_CloseMessage.f x0 x1).bind fun t116 => ((spec_CloseBytes.f x0 x1).bind fun t119 => ((laws_sameBytes.f k t116 t119).bind fun t122 => (some t122))))
def laws_FnCloseMessage.f (k : Nat) (a0 : Int) (a1 : ByteArray) : Option (Bool) := if (a1.size : Int) > 2147483647 then (some true) else (if a0 < 0 then (laws_FnCloseMessage.j0 k a0 a1 true) else (if a0 > 65535 then (laws_FnCloseMessage.j0 k a0 a1 true) else (if (a1.size : Int) > 120 then (laws_FnCloseMessage.j0 k a0 a1 true) else ((laws_clean.f k a1).bind fun t115 => (laws_FnCloseMessage.j0 k a0 a1 (!t115))))))
theorem laws_FnCloseMessage.mono_l : ∀ k, (∀ y0 y1 y2, LeO (laws_FnCloseMessage.j0 k y0 y1 y2) (laws_FnCloseMessage.j0 (k + 1) y0 y1 y2))
  | 0 => fun _ _ _ r h => by simp [laws_FnCloseMessage.j0] at h
  | k + 1 => by
    have ih0 := laws_FnCloseMessage.mono_l k
    · intro y0 y1 y2
      unfold laws_FnCloseMessage.j0
      repeat' first
      | (with_reducible exact ih0 _ _ _)
      | (with_reducible exact laws_clean.mono _ _)
      | (with_reducible exact laws_sameBytes.mono _ _ _)
      | (with_reducible exact LeO.refl _)
      | (with_reducible exact LeO.none _)
      | (with_reducible refine LeO.ite ?_ ?_)
      | (with_reducible refine LeO.bind ?_ (fun _ => ?_))
      | exact ih0 _ _ _
      | exact laws_clean.mono _ _
      | exact laws_sameBytes.mono _ _ _
      | exact LeO.none _
      | refine LeO.ite ?_ ?_
      | refine LeO.bind ?_ (fun _ => ?_)
theorem laws_FnCloseMessage.mono : ∀ a0 a1 k, LeO (laws_FnCloseMessage.f k a0 a1) (laws_FnCloseMessage.f (k + 1) a0 a1) := by
  intro a0 a1 k
  have ih0 := laws_FnCloseMessage.mono_l k
  unfold laws_FnCloseMessage.f
  repeat' first
      | (with_reducible exact ih0 _ _ _)
      | (with_reducible exact laws_clean.mono _ _)
      | (with_reducible exact laws_sameBytes.mono _ _ _)
      | (with_reducible exact LeO.refl _)
      | (with_reducible exact LeO.none _)
      | (with_reducible refine LeO.ite ?_ ?_)
      | (with_reducible refine LeO.bind ?_ (fun _ => ?_))
      | exact ih0 _ _ _
      | exact laws_clean.mono _ _
      | exact laws_sameBytes.mono _ _ _
      | exact LeO.none _
      | refine LeO.ite ?_ ?_
      | refine LeO.bind ?_ (fun _ => ?_)
set_option maxHeartbeats 8000000 in
set_option maxRecDepth 100000 in
theorem laws_FnCloseMessage.calls (k : Nat) (a0 : Int) (a1 : ByteArray) (r : Bool) (w : World) (h : laws_FnCloseMessage.f k a0 a1 = some r) :
    Calls Try.prog 10 #[.int .i64 a0, .string a1] w fun e w' => e = .returned (.bool r) ∧ Below w.heap.size w w' := by
  have HB := Aside0.mk (Below.refl w.heap.size w)
  have H : (if (a1.size : Int) > 2147483647 then (some true) else (if a0 < 0 then (laws_FnCloseMessage.j0 k a0 a1 true) else (if a0 > 65535 then (laws_FnCloseMessage.j0 k a0 a1 true) else (if (a1.size : Int) > 120 then (laws_FnCloseMessage.j0 k a0 a1 true) else ((laws_clean.f k a1).bind fun t115 => (laws_FnCloseMessage.j0 k a0 a1 (!t115))))))) = some r := h
  clear h
  by_cases c3 : (a1.size : Int) > 2147483647
  · rw [if_pos c3] at H
    have c3b0 : decide (2147483647 < (a1.size : Int)) = true := decide_eq_true c3
    have c3b1 : decide (2147483647 < a1.size) = true := decide_eq_true (by omega)
    clear c3
    obtain rfl := Option.some.inj H
    go_enter Try.func10, Try.ntmps10
    go_wp2
    go_ret
    exact ⟨by first | rfl | (simp [errW_none, errW_some] <;> rfl) | (simp [*, errW_none, errW_some] <;> rfl), by repeat (first | (with_reducible first | exact HB.out | apply below_alloc | apply pw_below_drewN | apply below_drew1) | exact HB.out)⟩
  · rw [if_neg c3] at H
    have c3b0 : decide (2147483647 < (a1.size : Int)) = false := decide_eq_false c3
    have c3b1 : decide (2147483647 < a1.size) = false := decide_eq_false (by omega)
    clear c3
    have HC4 := Aside0.mk H
    clear H
    go_enter Try.func10, Try.ntmps10
    go_upto_region 3 with (fail)
    go_cut [23] (fun v23 wc => ∃ (kq : Nat) (x23_3 : Bool), v23 = .bool x23_3 ∧ Aside0 (laws_FnCloseMessage.j0 kq a0 a1 x23_3 = some r) ∧ Aside0 (kq ≤ k) ∧ Aside0 (Below w.heap.size w wc))
    case first =>
      have H := HC4.out
      clear HC4
      by_cases c5 : a0 < 0
      · rw [if_pos c5] at H
        have c5b0 : decide (a0 < 0) = true := decide_eq_true c5
        clear c5
        (first | rw [c5b0] | (simp only [i64_w, i32_w]; rw [c5b0]) | skip)
        have H' := Aside0.mk H
        clear H
        go_wp2
        go_meet
        case rel => exact ⟨_, (true), (by first | rfl | (simp; done) | (simp [*]; done)), H', ⟨by first | omega | exact Nat.le_refl _⟩, ⟨by repeat (first | (with_reducible first | exact HB.out | apply below_alloc | apply pw_below_drewN | apply below_drew1) | exact HB.out)⟩⟩
      · rw [if_neg c5] at H
        have c5b0 : decide (a0 < 0) = false := decide_eq_false c5
        clear c5
        (first | rw [c5b0] | (simp only [i64_w, i32_w]; rw [c5b0]) | skip)
        by_cases c6 : a0 > 65535
        · rw [if_pos c6] at H
          have c6b0 : decide (65535 < a0) = true := decide_eq_true c6
          clear c6
          have H' := Aside0.mk H
          clear H
          go_wp2
          go_meet
          case rel => exact ⟨_, (true), (by first | rfl | (simp; done) | (simp [*]; done)), H', ⟨by first | omega | exact Nat.le_refl _⟩, ⟨by repeat (first | (with_reducible first | exact HB.out | apply below_alloc | apply pw_below_drewN | apply below_drew1) | exact HB.out)⟩⟩
        · rw [if_neg c6] at H
          have c6b0 : decide (65535 < a0) = false := decide_eq_false c6
          clear c6
          by_cases c7 : (a1.size : Int) > 120
          · rw [if_pos c7] at H
            have c7b0 : decide (120 < (a1.size : Int)) = true := decide_eq_true c7
            have c7b1 : decide (120 < a1.size) = true := decide_eq_true (by omega)
            clear c7
            have H' := Aside0.mk H
            clear H
            go_wp2
            go_meet
            case rel => exact ⟨_, (true), (by first | rfl | (simp; done) | (simp [*]; done)), H', ⟨by first | omega | exact Nat.le_refl _⟩, ⟨by repeat (first | (with_reducible first | exact HB.out | apply below_alloc | apply pw_below_drewN | apply below_drew1) | exact HB.out)⟩⟩
          · rw [if_neg c7] at H
            have c7b0 : decide (120 < (a1.size : Int)) = false := decide_eq_false c7
            have c7b1 : decide (120 < a1.size) = false := decide_eq_false (by omega)
            clear c7
            replace H := Option.bind_eq_some_iff.mp H
            obtain ⟨t115, A80, H⟩ := H
            replace H : (laws_FnCloseMessage.j0 k a0 a1 (!t115)) = some r := H
            have A8 := Aside0.mk A80
            clear A80
            have H' := Aside0.mk H
            clear H
            go_wp2_with (first | (go_at_call 27; (with_reducible refine (laws_clean.calls k a1 t115 _ A8.out).mono ?_); rintro e w' ⟨rfl, ⟨nd, rfl⟩⟩))
            go_meet
            case rel => exact ⟨_, (!t115), (by first | rfl | (simp; done) | (simp [*]; done)), H', ⟨by first | omega | exact Nat.le_refl _⟩, ⟨by repeat (first | (with_reducible first | exact HB.out | apply below_alloc | apply pw_below_drewN | apply below_drew1) | exact HB.out)⟩⟩
    case rest =>
      clear HC4
      try clear c1
      try clear p2
      try clear c3
      try clear c3b0
      try clear c3b1
      try clear c5
      try clear c5b0
      try clear c6
      try clear c6b0
      try clear c7
      try clear c7b0
      try clear c7b1
      obtain ⟨kq, x23_3, rfl, HA, HJ3, HB⟩ := hcut
      cases kq with
      | zero => exact absurd HA.out (by simp [laws_FnCloseMessage.j0])
      | succ kj3 =>
        have H := HA.out
        clear HA
        simp only [laws_FnCloseMessage.j0] at H
        by_cases c9 : x23_3 = true
        · subst c9
          have H1 : (some true) = some r := by rw [if_pos rfl] at H; exact H
          clear H
          have H := H1
          clear H1
          obtain rfl := Option.some.inj H
          go_wp2
          go_ret
          exact ⟨by first | rfl | (simp [errW_none, errW_some] <;> rfl) | (simp [*, errW_none, errW_some] <;> rfl), by repeat (first | (with_reducible first | exact HB.out | apply below_alloc | apply pw_below_drewN | apply below_drew1) | exact HB.out)⟩
        · replace c9 := Bool.eq_false_iff.mpr c9
          subst c9
          have H1 : ((impl_CloseMessage.f a0 a1).bind fun t116 => ((spec_CloseBytes.f a0 a1).bind fun t119 => ((laws_sameBytes.f kj3 t116 t119).bind fun t122 => (some t122)))) = some r := by rw [if_neg (show ¬ (false = true) by decide)] at H; exact H
          clear H
          have H := H1
          clear H1
          replace H := Option.bind_eq_some_iff.mp H
          obtain ⟨t116, A100, H⟩ := H
          replace H : ((spec_CloseBytes.f a0 a1).bind fun t119 => ((laws_sameBytes.f kj3 t116 t119).bind fun t122 => (some t122))) = some r := H
          have A10 := Aside0.mk A100
          clear A100
          replace H := Option.bind_eq_some_iff.mp H
          obtain ⟨t119, A110, H⟩ := H
          replace H : ((laws_sameBytes.f kj3 t116 t119).bind fun t122 => (some t122)) = some r := H
          have A11 := Aside0.mk A110
          clear A110
          replace H := Option.bind_eq_some_iff.mp H
          obtain ⟨t122, A120, H⟩ := H
          replace H : (some t122) = some r := H
          have A12 := Aside0.mk A120
          clear A120
          obtain rfl := Option.some.inj H
          go_wp2_with (first | ((with_reducible refine gate_callee (f := 29) rfl ?_); refine goesL_ (some 26) rfl rfl Try.func29 (by kernel_rfl) rfl #[.int .i64 a0, .string a1] rfl (by (try simp only [List.map_toArray, List.map_cons, List.map_nil]); first | done | rfl | (simp only [List.length_drop, List.length_take]; rfl)) ?_; (with_reducible refine (impl_CloseMessage.calls a0 a1 t116 _ A10.out).mono ?_); rintro e w13 ⟨v117, rfl, ho0, hb⟩; refine ⟨_, rfl, ?_⟩; have n0_ := Aside0.mk (Kd.R_lower ho0 (below_size (by repeat (first | (with_reducible first | exact HB.out | apply below_alloc | apply pw_below_drewN | apply below_drew1) | exact HB.out)))); have n1_ := Aside0.mk (below_step (by repeat (first | (with_reducible first | exact HB.out | apply below_alloc | apply pw_below_drewN | apply below_drew1) | exact HB.out)) hb); clear HB; have HO118 := n0_; have HB := n1_; clear n0_ n1_; (try clear hb); (try clear hb2); (try clear hk); (try clear hi); (try clear ho0)) | ((with_reducible refine gate_callee (f := 30) rfl ?_); refine goesL_ (some 29) rfl rfl Try.func30 (by kernel_rfl) rfl #[.int .i64 a0, .string a1] rfl (by (try simp only [List.map_toArray, List.map_cons, List.map_nil]); first | done | rfl | (simp only [List.length_drop, List.length_take]; rfl)) ?_; (with_reducible refine (spec_CloseBytes.calls a0 a1 t119 _ A11.out).mono ?_); rintro e w14 ⟨v120, rfl, ho0, hb⟩; refine ⟨_, rfl, ?_⟩; have n0_ := Aside0.mk (Kd.R_elder' (by (with_reducible repeat (first | apply Kd.R_alloc | apply Kd.R_drewN | apply Kd.R_drew)); exact HO118.out) (Kd.R_base ho0) hb); have n1_ := Aside0.mk (Kd.R_lower (Kd.R_new' ho0 (Kd.R_lt (by (with_reducible repeat (first | apply Kd.R_alloc | apply Kd.R_drewN | apply Kd.R_drew)); exact HO118.out))) (below_size (by repeat (first | (with_reducible first | exact HB.out | apply below_alloc | apply pw_below_drewN | apply below_drew1) | exact HB.out)))); have n2_ := Aside0.mk (below_step (by repeat (first | (with_reducible first | exact HB.out | apply below_alloc | apply pw_below_drewN | apply below_drew1) | exact HB.out)) hb); clear HO118; clear HB; have HO118 := n0_; have HO121 := n1_; have HB := n2_; clear n0_ n1_ n2_; (try clear hb); (try clear hb2); (try clear hk); (try clear hi); (try clear ho0); obtain ⟨Ao15, co15, eo15⟩ := Kd.R_slice HO118.out; subst eo15; obtain ⟨Ao16, co16, eo16⟩ := Kd.R_slice HO121.out; subst eo16) | ((with_reducible refine gate_callee (f := 28) rfl ?_); refine goesL_ (some 30) rfl rfl Try.func28 (by kernel_rfl) rfl #[.slice Ao15 t116.length co15, .slice Ao16 t119.length co16] rfl (by (try simp only [List.map_toArray, List.map_cons, List.map_nil]); first | done | rfl | (simp only [List.length_drop, List.length_take]; rfl)) ?_; (with_reducible refine (laws_sameBytes.calls kj3 _ _ t116 _ _ t119 t122 _ ?side1 ?side2 ?side3 ?side4 A12.out).mono ?_); (case side1 => repeat (first | exact (Kd.R_reads' HO118.out).2.2 | (with_reducible refine Kd.C_alloc ?_ _) | (with_reducible refine Kd.C_drewN ?_ _) | (with_reducible refine Kd.C_drew ?_))); (case side2 => exact (Kd.R_reads' HO118.out).2.1); (case side3 => repeat (first | exact (Kd.R_reads' HO121.out).2.2 | (with_reducible refine Kd.C_alloc ?_ _) | (with_reducible refine Kd.C_drewN ?_ _) | (with_reducible refine Kd.C_drew ?_))); (case side4 => exact (Kd.R_reads' HO121.out).2.1); rintro e w' ⟨rfl, ⟨nd, rfl⟩⟩; refine ⟨_, rfl, ?_⟩))
          go_ret
          exact ⟨by first | rfl | (simp [errW_none, errW_some] <;> rfl) | (simp [*, errW_none, errW_some] <;> rfl), by repeat (first | (with_reducible first | exact HB.out | apply below_alloc | apply pw_below_drewN | apply below_drew1) | exact HB.out)⟩

/-- THE ONE PURE STATEMENT of laws_FnCloseMessage: yours. -/
def laws_FnCloseMessage.Pure : Prop := ∀ (a0 : Int) (a1 : ByteArray), (Lit.int .i64 a0).wf = true → a1.size ≤ 140737488351232 → ∃ k, laws_FnCloseMessage.f k a0 a1 = some true
theorem laws_FnCloseMessage.walk (P : laws_FnCloseMessage.Pure) (a0 : Int) (a1 : ByteArray) (w : World) (w0 : (Lit.int .i64 a0).wf = true) (w1 : a1.size ≤ 140737488351232) :
    Calls Try.prog 10 #[.int .i64 a0, .string a1] w fun e w' => e = .returned (.bool true) ∧ Below w.heap.size w w' := by
  obtain ⟨k, h⟩ := P a0 a1 w0 w1
  refine (laws_FnCloseMessage.calls k a0 a1 true w h).mono ?_
  rintro e w' ⟨rfl, hd⟩
  exact ⟨rfl, hd⟩

end Go.Proofs.Ytaobajfdnidkfaa.PFnCloseMessage
