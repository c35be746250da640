-- Written by hprint.py (this session's program, over the kit's printing program, with this session's own contracts in it). Not trusted: Lean checks it.
import Derived.Test.YtaobajfdnidkfaaPFnCollidex0
import Derived.Test.YtaobajfdnidkfaaPFnCollidex1
import Derived.Test.YtaobajfdnidkfaaPFnCollidex2
import Derived.Test.YtaobajfdnidkfaaPFnCollidex4
namespace Go.Proofs.Ytaobajfdnidkfaa.PFnCollide
open Go.RowKit Go.Proofs.YtaobajfdnidkfaaW.PrintWords Go.Proofs.YtaobajfdnidkfaaW.PrintLast Go.Proofs.YtaobajfdnidkfaaW.PrintMore
attribute [local go_sem] max2_int min2_int max_two min_two max_three min_three max_four min_four   -- for this text's walks alone
set_option linter.unusedVariables false
set_option linter.unusedSimpArgs false

/-! ### spec_collide: function 48 -/
mutual
def spec_collide.l0 : Nat → List ByteArray → List ByteArray → Int → Option (Bool)
  | 0, _, _, _ => none
  | k + 1, x0, x1, x5 => if x5 < (x0.length : Int) then (spec_collide.j1 k x0 x1 x5 true) else (spec_collide.j1 k x0 x1 x5 (decide (x5 < (x1.length : Int))))
def spec_collide.j1 : Nat → List ByteArray → List ByteArray → Int → Bool → Option (Bool)
  | 0, _, _, _, _ => none
  | k + 1, x0, x1, x5, x15 => if x15 = true then (if x5 ≥ (x0.length : Int) then (spec_collide.j2 k x0 x1 x5 true) else (spec_collide.j2 k x0 x1 x5 (decide (x5 ≥ (x1.length : Int))))) else (some true)
def spec_collide.j2 : Nat → List ByteArray → List ByteArray → Int → Bool → Option (Bool)
  | 0, _, _, _, _ => none
  | k + 1, x0, x1, x5, x27 => if x27 = true then (some false) else (if 0 ≤ x5 then (if x5 < (x0.length : Int) then (if (rdOf ByteArray.empty x0 x5).toList = ([62] : List UInt8) then (spec_collide.j3 k x0 x1 x5 true) else (if x5 < (x1.length : Int) then (spec_collide.j3 k x0 x1 x5 ((rdOf ByteArray.empty x1 x5).toList == ([62] : List UInt8))) else (none))) else (none)) else (none))
def spec_collide.j3 : Nat → List ByteArray → List ByteArray → Int → Bool → Option (Bool)
  | 0, _, _, _, _ => none
  | k + 1, x0, x1, x5, x39 => if x39 = true then (some true) else (if 0 ≤ x5 then (if x5 < (x0.length : Int) then (if (rdOf ByteArray.empty x0 x5).toList = ([42] : List UInt8) then (spec_collide.l0 k x0 x1 (wrap64 (x5 + 1))) else (if x5 < (x1.length : Int) then (if (rdOf ByteArray.empty x1 x5).toList = ([42] : List UInt8) then (spec_collide.l0 k x0 x1 (wrap64 (x5 + 1))) else (if (rdOf ByteArray.empty x0 x5).toList = (rdOf ByteArray.empty x1 x5).toList then (spec_collide.l0 k x0 x1 (wrap64 (x5 + 1))) else (some false))) else (none))) else (none)) else (none))
end
def spec_collide.f (k : Nat) (l0 : List ByteArray) (l1 : List ByteArray) : Option (Bool) := spec_collide.l0 k l0 l1 0
theorem spec_collide.mono_l : ∀ k, (∀ y0 y1 y2, LeO (spec_collide.l0 k y0 y1 y2) (spec_collide.l0 (k + 1) y0 y1 y2)) ∧ (∀ y0 y1 y2 y3, LeO (spec_collide.j1 k y0 y1 y2 y3) (spec_collide.j1 (k + 1) y0 y1 y2 y3)) ∧ (∀ y0 y1 y2 y3, LeO (spec_collide.j2 k y0 y1 y2 y3) (spec_collide.j2 (k + 1) y0 y1 y2 y3)) ∧ (∀ y0 y1 y2 y3, LeO (spec_collide.j3 k y0 y1 y2 y3) (spec_collide.j3 (k + 1) y0 y1 y2 y3))
  | 0 => ⟨fun _ _ _ r h => by simp [spec_collide.l0] at h, fun _ _ _ _ r h => by simp [spec_collide.j1] at h, fun _ _ _ _ r h => by simp [spec_collide.j2] at h, fun _ _ _ _ r h => by simp [spec_collide.j3] at h⟩
  | k + 1 => by
    obtain ⟨ih0, ih1, ih2, ih3⟩ := spec_collide.mono_l k
    refine ⟨?_, ?_, ?_, ?_⟩
    · intro y0 y1 y2
      unfold spec_collide.l0
      repeat' first
      | (with_reducible exact ih0 _ _ _)
      | (with_reducible exact ih1 _ _ _ _)
      | (with_reducible exact ih2 _ _ _ _)
      | (with_reducible exact ih3 _ _ _ _)
      | (with_reducible exact LeO.refl _)
      | (with_reducible exact LeO.none _)
      | (with_reducible refine LeO.ite ?_ ?_)
      | (with_reducible refine LeO.bind ?_ (fun _ => ?_))
      | exact ih0 _ _ _
      | exact ih1 _ _ _ _
      | exact ih2 _ _ _ _
      | exact ih3 _ _ _ _
      | exact LeO.none _
      | refine LeO.ite ?_ ?_
      | refine LeO.bind ?_ (fun _ => ?_)
    · intro y0 y1 y2 y3
      unfold spec_collide.j1
      repeat' first
      | (with_reducible exact ih0 _ _ _)
      | (with_reducible exact ih1 _ _ _ _)
      | (with_reducible exact ih2 _ _ _ _)
      | (with_reducible exact ih3 _ _ _ _)
      | (with_reducible exact LeO.refl _)
      | (with_reducible exact LeO.none _)
      | (with_reducible refine LeO.ite ?_ ?_)
      | (with_reducible refine LeO.bind ?_ (fun _ => ?_))
      | exact ih0 _ _ _
      | exact ih1 _ _ _ _
      | exact ih2 _ _ _ _
      | exact ih3 _ _ _ _
      | exact LeO.none _
      | refine LeO.ite ?_ ?_
      | refine LeO.bind ?_ (fun _ => ?_)
    · intro y0 y1 y2 y3
      unfold spec_collide.j2
      repeat' first
      | (with_reducible exact ih0 _ _ _)
      | (with_reducible exact ih1 _ _ _ _)
      | (with_reducible exact ih2 _ _ _ _)
      | (with_reducible exact ih3 _ _ _ _)
      | (with_reducible exact LeO.refl _)
      | (with_reducible exact LeO.none _)
      | (with_reducible refine LeO.ite ?_ ?_)
      | (with_reducible refine LeO.bind ?_ (fun _ => ?_))
      | exact ih0 _ _ _
      | exact ih1 _ _ _ _
      | exact ih2 _ _ _ _
      | exact ih3 _ _ _ _
      | exact LeO.none _
      | refine LeO.ite ?_ ?_
      | refine LeO.bind ?_ (fun _ => ?_)
    · intro y0 y1 y2 y3
      unfold spec_collide.j3
      repeat' first
      | (with_reducible exact ih0 _ _ _)
      | (with_reducible exact ih1 _ _ _ _)
      | (with_reducible exact ih2 _ _ _ _)
      | (with_reducible exact ih3 _ _ _ _)
      | (with_reducible exact LeO.refl _)
      | (with_reducible exact LeO.none _)
      | (with_reducible refine LeO.ite ?_ ?_)
      | (with_reducible refine LeO.bind ?_ (fun _ => ?_))
      | exact ih0 _ _ _
      | exact ih1 _ _ _ _
      | exact ih2 _ _ _ _
      | exact ih3 _ _ _ _
      | exact LeO.none _
      | refine LeO.ite ?_ ?_
      | refine LeO.bind ?_ (fun _ => ?_)
theorem spec_collide.mono : ∀ a0 a1 k, LeO (spec_collide.f k a0 a1) (spec_collide.f (k + 1) a0 a1) := by
  intro a0 a1 k
  obtain ⟨ih0, ih1, ih2, ih3⟩ := spec_collide.mono_l k
  unfold spec_collide.f
  repeat' first
      | (with_reducible exact ih0 _ _ _)
      | (with_reducible exact ih1 _ _ _ _)
      | (with_reducible exact ih2 _ _ _ _)
      | (with_reducible exact ih3 _ _ _ _)
      | (with_reducible exact LeO.refl _)
      | (with_reducible exact LeO.none _)
      | (with_reducible refine LeO.ite ?_ ?_)
      | (with_reducible refine LeO.bind ?_ (fun _ => ?_))
      | exact ih0 _ _ _
      | exact ih1 _ _ _ _
      | exact ih2 _ _ _ _
      | exact ih3 _ _ _ _
      | exact LeO.none _
      | refine LeO.ite ?_ ?_
      | refine LeO.bind ?_ (fun _ => ?_)
set_option maxHeartbeats 8000000 in
set_option maxRecDepth 100000 in
theorem spec_collide.calls (k : Nat) (A0 : Option Addr) (c0 : Nat) (l0 : List ByteArray) (A1 : Option Addr) (c1 : Nat) (l1 : List ByteArray) (r : Bool) (w : World) (hr0 : Kd.C Kd.string w A0 l0.length l0) (hc0 : l0.length ≤ c0) (hr1 : Kd.C Kd.string w A1 l1.length l1) (hc1 : l1.length ≤ c1) (h : spec_collide.f k l0 l1 = some r) :
    Calls Try.prog 48 #[.slice A0 l0.length c0, .slice A1 l1.length c1] w fun e w' => e = .returned (.bool r) ∧ Drawn0 w w' := by
  have HR0 := Aside0.mk hr0
  have HC0 := Aside0.mk hc0
  clear hr0 hc0
  have HR1 := Aside0.mk hr1
  have HC1 := Aside0.mk hc1
  clear hr1 hc1
  have H : (spec_collide.l0 k l0 l1 0) = some r := h
  clear h
  have H' := Aside0.mk H
  clear H
  go_enter Try.func48, Try.ntmps48
  go_wp2
  repeat (go_quiet (fail); try go_wp2)
  go_loopg [5] k (fun kq v5 w' => ∃ (x5_1 : Int), v5 = .int .i64 x5_1 ∧ Aside0 (spec_collide.l0 kq l0 l1 x5_1 = some r) ∧ Aside0 (kq ≤ k) ∧ Drawn0 w w')
  case atStart => exact ⟨(0), (by first | rfl | (simp; done) | (simp [*]; done)), H', ⟨Nat.le_refl _⟩, by repeat (first | exact Drawn0.refl _ | apply Drawn0.step)⟩
  case round =>
    clear H'
    try clear c1
    try clear p2
    obtain ⟨x5_1, rfl, HA, HK1, ⟨m1, rfl⟩⟩ := hrel
    cases gk with
    | zero => exact absurd HA.out (by simp [spec_collide.l0])
    | succ k1 =>
      have H := HA.out
      clear HA
      simp only [spec_collide.l0] at H
      have HC3 := Aside0.mk H
      clear H
      go_upto_region 2 with (fail)
      repeat (go_quiet (fail); go_upto_region 2 with (fail))
      go_cut [15] (fun v15 wc => ∃ (kq : Nat) (x15_2 : Bool), v15 = .bool x15_2 ∧ Aside0 (spec_collide.j1 kq l0 l1 x5_1 x15_2 = some r) ∧ Aside0 (kq ≤ k1) ∧ Drawn0 w wc)
      case first =>
        have H := HC3.out
        clear HC3
        by_cases c4 : x5_1 < (l0.length : Int)
        · rw [if_pos c4] at H
          have c4b0 : decide (x5_1 < (l0.length : Int)) = true := decide_eq_true c4
          clear c4
          (first | rw [c4b0] | (simp only [i64_w, i32_w]; rw [c4b0]) | skip)
          have H' := Aside0.mk H
          clear H
          go_wp2
          repeat (go_quiet (fail); try go_wp2)
          go_meet
          case rel => exact ⟨_, (true), (by first | rfl | (simp; done) | (simp [*]; done)), H', ⟨by have := HK1.out; first | omega | exact Nat.le_refl _⟩, by repeat (first | exact Drawn0.refl _ | apply Drawn0.step)⟩
        · rw [if_neg c4] at H
          have c4b0 : decide (x5_1 < (l0.length : Int)) = false := decide_eq_false c4
          clear c4
          (first | rw [c4b0] | (simp only [i64_w, i32_w]; rw [c4b0]) | skip)
          have H' := Aside0.mk H
          clear H
          go_wp2
          repeat (go_quiet (fail); try go_wp2)
          go_meet
          case rel => exact ⟨_, (decide (x5_1 < (l1.length : Int))), (by first | rfl | (simp; done) | (simp [*]; done)), H', ⟨by have := HK1.out; first | omega | exact Nat.le_refl _⟩, by repeat (first | exact Drawn0.refl _ | apply Drawn0.step)⟩
      case rest =>
        clear HC3
        try clear c1
        try clear p2
        try clear c4
        try clear c4b0
        try clear p2
        obtain ⟨kq, x15_2, rfl, HA, HJ2, ⟨mc2, rfl⟩⟩ := hcut
        cases kq with
        | zero => exact absurd HA.out (by simp [spec_collide.j1])
        | succ kj2 =>
          have H := HA.out
          clear HA
          simp only [spec_collide.j1] at H
          by_cases c5 : x15_2 = true
          · subst c5
            have H1 : (if x5_1 ≥ (l0.length : Int) then (spec_collide.j2 kj2 l0 l1 x5_1 true) else (spec_collide.j2 kj2 l0 l1 x5_1 (decide (x5_1 ≥ (l1.length : Int))))) = some r := by rw [if_pos rfl] at H; exact H
            clear H
            have H := H1
            clear H1
            have HC6 := Aside0.mk H
            clear H
            go_upto_region 4 with (fail)
            repeat (go_quiet (fail); go_upto_region 4 with (fail))
            go_cut [27] (fun v27 wc => ∃ (kq : Nat) (x27_5 : Bool), v27 = .bool x27_5 ∧ Aside0 (spec_collide.j2 kq l0 l1 x5_1 x27_5 = some r) ∧ Aside0 (kq ≤ kj2) ∧ Drawn0 w wc)
            case first =>
              have H := HC6.out
              clear HC6
              by_cases c7 : x5_1 ≥ (l0.length : Int)
              · rw [if_pos c7] at H
                have c7b0 : decide ((l0.length : Int) ≤ x5_1) = true := decide_eq_true c7
                clear c7
                (first | rw [c7b0] | (simp only [i64_w, i32_w]; rw [c7b0]) | skip)
                have H' := Aside0.mk H
                clear H
                go_wp2
                repeat (go_quiet (fail); try go_wp2)
                go_meet
                case rel => exact ⟨_, (true), (by first | rfl | (simp; done) | (simp [*]; done)), H', ⟨by have := HK1.out; have := HJ2.out; first | omega | exact Nat.le_refl _⟩, by repeat (first | exact Drawn0.refl _ | apply Drawn0.step)⟩
              · rw [if_neg c7] at H
                have c7b0 : decide ((l0.length : Int) ≤ x5_1) = false := decide_eq_false c7
                clear c7
                (first | rw [c7b0] | (simp only [i64_w, i32_w]; rw [c7b0]) | skip)
                have H' := Aside0.mk H
                clear H
                go_wp2
                repeat (go_quiet (fail); try go_wp2)
                go_meet
                case rel => exact ⟨_, (decide (x5_1 ≥ (l1.length : Int))), (by first | rfl | (simp; done) | (simp [*]; done)), H', ⟨by have := HK1.out; have := HJ2.out; first | omega | exact Nat.le_refl _⟩, by repeat (first | exact Drawn0.refl _ | apply Drawn0.step)⟩
            case rest =>
              clear HC6
              try clear c1
              try clear c2
              try clear p2
              try clear c4
              try clear c4b0
              try clear c5
              try clear c7
              try clear c7b0
              try clear p2
              obtain ⟨kq, x27_5, rfl, HA, HJ5, ⟨mc5, rfl⟩⟩ := hcut
              cases kq with
              | zero => exact absurd HA.out (by simp [spec_collide.j2])
              | succ kj5 =>
                have H := HA.out
                clear HA
                simp only [spec_collide.j2] at H
                by_cases c8 : x27_5 = true
                · subst c8
                  have H1 : (some false) = some r := by rw [if_pos rfl] at H; exact H
                  clear H
                  have H := H1
                  clear H1
                  obtain rfl := Option.some.inj H
                  go_wp2
                  repeat (go_quiet (fail); try go_wp2)
                  go_ret
                  exact ⟨by first | rfl | (simp; done) | (simp [*]; done), by repeat (first | exact Drawn0.refl _ | apply Drawn0.step)⟩
                · replace c8 := Bool.eq_false_iff.mpr c8
                  subst c8
                  have H1 : (if 0 ≤ x5_1 then (if x5_1 < (l0.length : Int) then (if (rdOf ByteArray.empty l0 x5_1).toList = ([62] : List UInt8) then (spec_collide.j3 kj5 l0 l1 x5_1 true) else (if x5_1 < (l1.length : Int) then (spec_collide.j3 kj5 l0 l1 x5_1 ((rdOf ByteArray.empty l1 x5_1).toList == ([62] : List UInt8))) else (none))) else (none)) else (none)) = some r := by rw [if_neg (show ¬ (false = true) by decide)] at H; exact H
                  clear H
                  have H := H1
                  clear H1
                  have HC9 := Aside0.mk H
                  clear H
                  go_upto_region 6 with (fail)
                  repeat (go_quiet (fail); go_upto_region 6 with (fail))
                  go_cut [39] (fun v39 wc => ∃ (kq : Nat) (x39_8 : Bool), v39 = .bool x39_8 ∧ Aside0 (spec_collide.j3 kq l0 l1 x5_1 x39_8 = some r) ∧ Aside0 (kq ≤ kj5) ∧ Drawn0 w wc)
                  case first =>
                    have H := HC9.out
                    clear HC9
                    by_cases c10 : 0 ≤ x5_1
                    · rw [if_pos c10] at H
                      have c10b0 : decide (0 ≤ x5_1) = true := decide_eq_true c10
                      clear c10
                      (first | rw [c10b0] | (simp only [i64_w, i32_w]; rw [c10b0]) | skip)
                      by_cases c11 : x5_1 < (l0.length : Int)
                      · rw [if_pos c11] at H
                        have c11b0 : decide (x5_1 < (l0.length : Int)) = true := decide_eq_true c11
                        clear c11
                        by_cases c12 : (rdOf ByteArray.empty l0 x5_1).toList = ([62] : List UInt8)
                        · rw [if_pos c12] at H
                          have c12b0 : ((rdOf ByteArray.empty l0 x5_1).toList == ([62] : List UInt8)) = true := beq_iff_eq.mpr c12
                          have c12b1 : ((rdOf ByteArray.empty l0 x5_1).toList != ([62] : List UInt8)) = false := bne_eq_false_iff_eq.mpr c12
                          clear c12
                          have H' := Aside0.mk H
                          clear H
                          have p130 : 0 ≤ (x5_1 : Int) := of_decide_eq_true (by first | (with_reducible assumption) | assumption)
                          have q130 : x5_1 < (l0.length : Int) := of_decide_eq_true (by first | (with_reducible assumption) | assumption)
                          obtain ⟨ad130, e130, hx130_0⟩ := Kd.at_string HR0.out x5_1 p130 q130
                          cases e130
                          replace p130 := eq_true p130
                          replace q130 := eq_true q130
                          go_wp2
                          repeat (go_quiet (fail); try go_wp2)
                          go_meet
                          case rel => exact ⟨_, (true), (by first | rfl | (simp; done) | (simp [*]; done)), H', ⟨by have := HK1.out; have := HJ2.out; have := HJ5.out; first | omega | exact Nat.le_refl _⟩, by repeat (first | exact Drawn0.refl _ | apply Drawn0.step)⟩
                        · rw [if_neg c12] at H
                          have c12b0 : ((rdOf ByteArray.empty l0 x5_1).toList == ([62] : List UInt8)) = false := beq_eq_false_iff_ne.mpr c12
                          have c12b1 : ((rdOf ByteArray.empty l0 x5_1).toList != ([62] : List UInt8)) = true := bne_iff_ne.mpr c12
                          by_cases c13 : x5_1 < (l1.length : Int)
                          · rw [if_pos c13] at H
                            have c13b0 : decide (x5_1 < (l1.length : Int)) = true := decide_eq_true c13
                            clear c13
                            have H' := Aside0.mk H
                            clear H
                            have p130 : 0 ≤ (x5_1 : Int) := of_decide_eq_true (by first | (with_reducible assumption) | assumption)
                            have q130 : x5_1 < (l0.length : Int) := of_decide_eq_true (by first | (with_reducible assumption) | assumption)
                            obtain ⟨ad130, e130, hx130_0⟩ := Kd.at_string HR0.out x5_1 p130 q130
                            cases e130
                            replace p130 := eq_true p130
                            replace q130 := eq_true q130
                            have p131 : 0 ≤ (x5_1 : Int) := of_decide_eq_true (by first | (with_reducible assumption) | assumption)
                            have q131 : x5_1 < (l1.length : Int) := of_decide_eq_true (by first | (with_reducible assumption) | assumption)
                            obtain ⟨ad131, e131, hx131_0⟩ := Kd.at_string HR1.out x5_1 p131 q131
                            cases e131
                            replace p131 := eq_true p131
                            replace q131 := eq_true q131
                            go_wp2
                            repeat (go_quiet (fail); try go_wp2)
                            go_meet
                            case rel => exact ⟨_, (((rdOf ByteArray.empty l1 x5_1).toList == ([62] : List UInt8))), (by first | rfl | (simp; done) | (simp [*]; done)), H', ⟨by have := HK1.out; have := HJ2.out; have := HJ5.out; first | omega | exact Nat.le_refl _⟩, by repeat (first | exact Drawn0.refl _ | apply Drawn0.step)⟩
                          · rw [if_neg c13] at H
                            exact absurd H (by simp)
                      · rw [if_neg c11] at H
                        exact absurd H (by simp)
                    · rw [if_neg c10] at H
                      exact absurd H (by simp)
                  case rest =>
                    clear HC9
                    try clear c1
                    try clear p1
                    try clear q1
                    try clear hx1
                    try clear c2
                    try clear p2
                    try clear c4
                    try clear c4b0
                    try clear c5
                    try clear c7
                    try clear c7b0
                    try clear c8
                    try clear c10
                    try clear c10b0
                    try clear c11
                    try clear c11b0
                    try clear c12
                    try clear c12b0
                    try clear c12b1
                    try clear c13
                    try clear c13b0
                    try clear p13
                    try clear q13
                    try clear hx13
                    try clear hx130_0
                    try clear hx131_0
                    try clear p130
                    try clear p131
                    try clear p2
                    try clear q130
                    try clear q131
                    obtain ⟨kq, x39_8, rfl, HA, HJ8, ⟨mc8, rfl⟩⟩ := hcut
                    cases kq with
                    | zero => exact absurd HA.out (by simp [spec_collide.j3])
                    | succ kj8 =>
                      have H := HA.out
                      clear HA
                      simp only [spec_collide.j3] at H
                      by_cases c14 : x39_8 = true
                      · subst c14
                        have H1 : (some true) = some r := by rw [if_pos rfl] at H; exact H
                        clear H
                        have H := H1
                        clear H1
                        obtain rfl := Option.some.inj H
                        go_wp2
                        repeat (go_quiet (fail); try go_wp2)
                        go_ret
                        exact ⟨by first | rfl | (simp; done) | (simp [*]; done), by repeat (first | exact Drawn0.refl _ | apply Drawn0.step)⟩
                      · replace c14 := Bool.eq_false_iff.mpr c14
                        subst c14
                        have H1 : (if 0 ≤ x5_1 then (if x5_1 < (l0.length : Int) then (if (rdOf ByteArray.empty l0 x5_1).toList = ([42] : List UInt8) then (spec_collide.l0 kj8 l0 l1 (wrap64 (x5_1 + 1))) else (if x5_1 < (l1.length : Int) then (if (rdOf ByteArray.empty l1 x5_1).toList = ([42] : List UInt8) then (spec_collide.l0 kj8 l0 l1 (wrap64 (x5_1 + 1))) else (if (rdOf ByteArray.empty l0 x5_1).toList = (rdOf ByteArray.empty l1 x5_1).toList then (spec_collide.l0 kj8 l0 l1 (wrap64 (x5_1 + 1))) else (some false))) else (none))) else (none)) else (none)) = some r := by rw [if_neg (show ¬ (false = true) by decide)] at H; exact H
                        clear H
                        have H := H1
                        clear H1
                        by_cases c15 : 0 ≤ x5_1
                        · rw [if_pos c15] at H
                          have c15b0 : decide (0 ≤ x5_1) = true := decide_eq_true c15
                          clear c15
                          by_cases c16 : x5_1 < (l0.length : Int)
                          · rw [if_pos c16] at H
                            have c16b0 : decide (x5_1 < (l0.length : Int)) = true := decide_eq_true c16
                            clear c16
                            by_cases c17 : (rdOf ByteArray.empty l0 x5_1).toList = ([42] : List UInt8)
                            · rw [if_pos c17] at H
                              have c17b0 : ((rdOf ByteArray.empty l0 x5_1).toList == ([42] : List UInt8)) = true := beq_iff_eq.mpr c17
                              have c17b1 : ((rdOf ByteArray.empty l0 x5_1).toList != ([42] : List UInt8)) = false := bne_eq_false_iff_eq.mpr c17
                              clear c17
                              have H' := Aside0.mk H
                              clear H
                              have p132 : 0 ≤ (x5_1 : Int) := of_decide_eq_true (by first | (with_reducible assumption) | assumption)
                              have q132 : x5_1 < (l0.length : Int) := of_decide_eq_true (by first | (with_reducible assumption) | assumption)
                              obtain ⟨ad132, e132, hx132_0⟩ := Kd.at_string HR0.out x5_1 p132 q132
                              cases e132
                              replace p132 := eq_true p132
                              replace q132 := eq_true q132
                              go_wp2
                              repeat (go_quiet (fail); try go_wp2)
                              go_roundg kj8
                              case measure => have := HK1.out; have := HJ2.out; have := HJ5.out; have := HJ8.out; omega
                              case rel => exact ⟨(wrap64 (x5_1 + 1)), (by first | rfl | (simp; done) | (simp [*]; done)), H', ⟨by have := HK1.out; have := HJ2.out; have := HJ5.out; have := HJ8.out; omega⟩, by repeat (first | exact Drawn0.refl _ | apply Drawn0.step)⟩
                            · rw [if_neg c17] at H
                              have c17b0 : ((rdOf ByteArray.empty l0 x5_1).toList == ([42] : List UInt8)) = false := beq_eq_false_iff_ne.mpr c17
                              have c17b1 : ((rdOf ByteArray.empty l0 x5_1).toList != ([42] : List UInt8)) = true := bne_iff_ne.mpr c17
                              by_cases c18 : x5_1 < (l1.length : Int)
                              · rw [if_pos c18] at H
                                have c18b0 : decide (x5_1 < (l1.length : Int)) = true := decide_eq_true c18
                                clear c18
                                by_cases c19 : (rdOf ByteArray.empty l1 x5_1).toList = ([42] : List UInt8)
                                · rw [if_pos c19] at H
                                  have c19b0 : ((rdOf ByteArray.empty l1 x5_1).toList == ([42] : List UInt8)) = true := beq_iff_eq.mpr c19
                                  have c19b1 : ((rdOf ByteArray.empty l1 x5_1).toList != ([42] : List UInt8)) = false := bne_eq_false_iff_eq.mpr c19
                                  clear c19
                                  have H' := Aside0.mk H
                                  clear H
                                  have p132 : 0 ≤ (x5_1 : Int) := of_decide_eq_true (by first | (with_reducible assumption) | assumption)
                                  have q132 : x5_1 < (l0.length : Int) := of_decide_eq_true (by first | (with_reducible assumption) | assumption)
                                  obtain ⟨ad132, e132, hx132_0⟩ := Kd.at_string HR0.out x5_1 p132 q132
                                  cases e132
                                  replace p132 := eq_true p132
                                  replace q132 := eq_true q132
                                  have p133 : 0 ≤ (x5_1 : Int) := of_decide_eq_true (by first | (with_reducible assumption) | assumption)
                                  have q133 : x5_1 < (l1.length : Int) := of_decide_eq_true (by first | (with_reducible assumption) | assumption)
                                  obtain ⟨ad133, e133, hx133_0⟩ := Kd.at_string HR1.out x5_1 p133 q133
                                  cases e133
                                  replace p133 := eq_true p133
                                  replace q133 := eq_true q133
                                  go_wp2
                                  repeat (go_quiet (fail); try go_wp2)
                                  go_roundg kj8
                                  case measure => have := HK1.out; have := HJ2.out; have := HJ5.out; have := HJ8.out; omega
                                  case rel => exact ⟨(wrap64 (x5_1 + 1)), (by first | rfl | (simp; done) | (simp [*]; done)), H', ⟨by have := HK1.out; have := HJ2.out; have := HJ5.out; have := HJ8.out; omega⟩, by repeat (first | exact Drawn0.refl _ | apply Drawn0.step)⟩
                                · rw [if_neg c19] at H
                                  have c19b0 : ((rdOf ByteArray.empty l1 x5_1).toList == ([42] : List UInt8)) = false := beq_eq_false_iff_ne.mpr c19
                                  have c19b1 : ((rdOf ByteArray.empty l1 x5_1).toList != ([42] : List UInt8)) = true := bne_iff_ne.mpr c19
                                  by_cases c20 : (rdOf ByteArray.empty l0 x5_1).toList = (rdOf ByteArray.empty l1 x5_1).toList
                                  · rw [if_pos c20] at H
                                    have c20b0 : ((rdOf ByteArray.empty l0 x5_1).toList == (rdOf ByteArray.empty l1 x5_1).toList) = true := beq_iff_eq.mpr c20
                                    have c20b1 : ((rdOf ByteArray.empty l0 x5_1).toList != (rdOf ByteArray.empty l1 x5_1).toList) = false := bne_eq_false_iff_eq.mpr c20
                                    clear c20
                                    have H' := Aside0.mk H
                                    clear H
                                    have p132 : 0 ≤ (x5_1 : Int) := of_decide_eq_true (by first | (with_reducible assumption) | assumption)
                                    have q132 : x5_1 < (l0.length : Int) := of_decide_eq_true (by first | (with_reducible assumption) | assumption)
                                    obtain ⟨ad132, e132, hx132_0⟩ := Kd.at_string HR0.out x5_1 p132 q132
                                    cases e132
                                    replace p132 := eq_true p132
                                    replace q132 := eq_true q132
                                    have p133 : 0 ≤ (x5_1 : Int) := of_decide_eq_true (by first | (with_reducible assumption) | assumption)
                                    have q133 : x5_1 < (l1.length : Int) := of_decide_eq_true (by first | (with_reducible assumption) | assumption)
                                    obtain ⟨ad133, e133, hx133_0⟩ := Kd.at_string HR1.out x5_1 p133 q133
                                    cases e133
                                    replace p133 := eq_true p133
                                    replace q133 := eq_true q133
                                    have p134 : 0 ≤ (x5_1 : Int) := of_decide_eq_true (by first | (with_reducible assumption) | assumption)
                                    have q134 : x5_1 < (l0.length : Int) := of_decide_eq_true (by first | (with_reducible assumption) | assumption)
                                    obtain ⟨ad134, e134, hx134_0⟩ := Kd.at_string HR0.out x5_1 p134 q134
                                    obtain rfl : ad132 = ad134 := (by injection e134)
                                    replace p134 := eq_true p134
                                    replace q134 := eq_true q134
                                    have p135 : 0 ≤ (x5_1 : Int) := of_decide_eq_true (by first | (with_reducible assumption) | assumption)
                                    have q135 : x5_1 < (l1.length : Int) := of_decide_eq_true (by first | (with_reducible assumption) | assumption)
                                    obtain ⟨ad135, e135, hx135_0⟩ := Kd.at_string HR1.out x5_1 p135 q135
                                    obtain rfl : ad133 = ad135 := (by injection e135)
                                    replace p135 := eq_true p135
                                    replace q135 := eq_true q135
                                    go_wp2
                                    repeat (go_quiet (fail); try go_wp2)
                                    go_roundg kj8
                                    case measure => have := HK1.out; have := HJ2.out; have := HJ5.out; have := HJ8.out; omega
                                    case rel => exact ⟨(wrap64 (x5_1 + 1)), (by first | rfl | (simp; done) | (simp [*]; done)), H', ⟨by have := HK1.out; have := HJ2.out; have := HJ5.out; have := HJ8.out; omega⟩, by repeat (first | exact Drawn0.refl _ | apply Drawn0.step)⟩
                                  · rw [if_neg c20] at H
                                    have c20b0 : ((rdOf ByteArray.empty l0 x5_1).toList == (rdOf ByteArray.empty l1 x5_1).toList) = false := beq_eq_false_iff_ne.mpr c20
                                    have c20b1 : ((rdOf ByteArray.empty l0 x5_1).toList != (rdOf ByteArray.empty l1 x5_1).toList) = true := bne_iff_ne.mpr c20
                                    obtain rfl := Option.some.inj H
                                    have p132 : 0 ≤ (x5_1 : Int) := of_decide_eq_true (by first | (with_reducible assumption) | assumption)
                                    have q132 : x5_1 < (l0.length : Int) := of_decide_eq_true (by first | (with_reducible assumption) | assumption)
                                    obtain ⟨ad132, e132, hx132_0⟩ := Kd.at_string HR0.out x5_1 p132 q132
                                    cases e132
                                    replace p132 := eq_true p132
                                    replace q132 := eq_true q132
                                    have p133 : 0 ≤ (x5_1 : Int) := of_decide_eq_true (by first | (with_reducible assumption) | assumption)
                                    have q133 : x5_1 < (l1.length : Int) := of_decide_eq_true (by first | (with_reducible assumption) | assumption)
                                    obtain ⟨ad133, e133, hx133_0⟩ := Kd.at_string HR1.out x5_1 p133 q133
                                    cases e133
                                    replace p133 := eq_true p133
                                    replace q133 := eq_true q133
                                    have p134 : 0 ≤ (x5_1 : Int) := of_decide_eq_true (by first | (with_reducible assumption) | assumption)
                                    have q134 : x5_1 < (l0.length : Int) := of_decide_eq_true (by first | (with_reducible assumption) | assumption)
                                    obtain ⟨ad134, e134, hx134_0⟩ := Kd.at_string HR0.out x5_1 p134 q134
                                    obtain rfl : ad132 = ad134 := (by injection e134)
                                    replace p134 := eq_true p134
                                    replace q134 := eq_true q134
                                    have p135 : 0 ≤ (x5_1 : Int) := of_decide_eq_true (by first | (with_reducible assumption) | assumption)
                                    have q135 : x5_1 < (l1.length : Int) := of_decide_eq_true (by first | (with_reducible assumption) | assumption)
                                    obtain ⟨ad135, e135, hx135_0⟩ := Kd.at_string HR1.out x5_1 p135 q135
                                    obtain rfl : ad133 = ad135 := (by injection e135)
                                    replace p135 := eq_true p135
                                    replace q135 := eq_true q135
                                    go_wp2
                                    repeat (go_quiet (fail); try go_wp2)
                                    go_ret
                                    exact ⟨by first | rfl | (simp; done) | (simp [*]; done), by repeat (first | exact Drawn0.refl _ | apply Drawn0.step)⟩
                              · rw [if_neg c18] at H
                                exact absurd H (by simp)
                          · rw [if_neg c16] at H
                            exact absurd H (by simp)
                        · rw [if_neg c15] at H
                          exact absurd H (by simp)
          · replace c5 := Bool.eq_false_iff.mpr c5
            subst c5
            have H1 : (some true) = some r := by rw [if_neg (show ¬ (false = true) by decide)] at H; exact H
            clear H
            have H := H1
            clear H1
            obtain rfl := Option.some.inj H
            go_wp2
            repeat (go_quiet (fail); try go_wp2)
            go_ret
            exact ⟨by first | rfl | (simp; done) | (simp [*]; done), by repeat (first | exact Drawn0.refl _ | apply Drawn0.step)⟩

/-! ### spec_Collide: function 26 -/
def spec_Collide.f (k : Nat) (a0 : ByteArray) (a1 : ByteArray) : Option (Bool) := (spec_Tokens.f k a0).bind fun t136 => ((spec_Tokens.f k a1).bind fun t139 => ((spec_collide.f k t136 t139).bind fun t142 => (some t142)))
theorem spec_Collide.mono : ∀ a0 a1 k, LeO (spec_Collide.f k a0 a1) (spec_Collide.f (k + 1) a0 a1) := by
  intro a0 a1 k
  unfold spec_Collide.f
  repeat' first
      | (with_reducible exact spec_Tokens.mono _ _)
      | (with_reducible exact spec_collide.mono _ _ _)
      | (with_reducible exact LeO.refl _)
      | (with_reducible exact LeO.none _)
      | (with_reducible refine LeO.ite ?_ ?_)
      | (with_reducible refine LeO.bind ?_ (fun _ => ?_))
      | exact spec_Tokens.mono _ _
      | exact spec_collide.mono _ _ _
      | exact LeO.none _
      | refine LeO.ite ?_ ?_
      | refine LeO.bind ?_ (fun _ => ?_)
set_option maxHeartbeats 8000000 in
set_option maxRecDepth 100000 in
theorem spec_Collide.calls (k : Nat) (a0 : ByteArray) (a1 : ByteArray) (r : Bool) (w : World) (h : spec_Collide.f k a0 a1 = some r) :
    Calls Try.prog 26 #[.string a0, .string a1] w fun e w' => e = .returned (.bool r) ∧ Below w.heap.size w w' := by
  have HB := Aside0.mk (Below.refl w.heap.size w)
  have H : ((spec_Tokens.f k a0).bind fun t136 => ((spec_Tokens.f k a1).bind fun t139 => ((spec_collide.f k t136 t139).bind fun t142 => (some t142)))) = some r := h
  clear h
  replace H := Option.bind_eq_some_iff.mp H
  obtain ⟨t136, A30, H⟩ := H
  replace H : ((spec_Tokens.f k a1).bind fun t139 => ((spec_collide.f k t136 t139).bind fun t142 => (some t142))) = some r := H
  have A3 := Aside0.mk A30
  clear A30
  replace H := Option.bind_eq_some_iff.mp H
  obtain ⟨t139, A40, H⟩ := H
  replace H : ((spec_collide.f k t136 t139).bind fun t142 => (some t142)) = some r := H
  have A4 := Aside0.mk A40
  clear A40
  replace H := Option.bind_eq_some_iff.mp H
  obtain ⟨t142, A50, H⟩ := H
  replace H : (some t142) = some r := H
  have A5 := Aside0.mk A50
  clear A50
  obtain rfl := Option.some.inj H
  go_enter Try.func26, Try.ntmps26
  go_wp2_with (first | ((with_reducible refine gate_callee (f := 37) rfl ?_); refine goesL_ (some 6) rfl rfl Try.func37 (by kernel_rfl) rfl #[.string a0] rfl (by (try simp only [List.map_toArray, List.map_cons, List.map_nil]); first | done | rfl | (simp only [List.length_drop, List.length_take]; rfl)) ?_; (with_reducible refine (spec_Tokens.calls k a0 t136 _ A3.out).mono ?_); rintro e w6 ⟨v137, rfl, ho0, hb⟩; refine ⟨_, rfl, ?_⟩; have n0_ := Aside0.mk (Kd.R_lower ho0 (below_size (by repeat (first | (with_reducible first | exact HB.out | apply below_alloc | apply pw_below_drewN | apply below_drew1) | exact HB.out)))); have n1_ := Aside0.mk (below_step (by repeat (first | (with_reducible first | exact HB.out | apply below_alloc | apply pw_below_drewN | apply below_drew1) | exact HB.out)) hb); clear HB; have HO138 := n0_; have HB := n1_; clear n0_ n1_; (try clear hb); (try clear hb2); (try clear hk); (try clear hi); (try clear ho0)) | ((with_reducible refine gate_callee (f := 37) rfl ?_); refine goesL_ (some 8) rfl rfl Try.func37 (by kernel_rfl) rfl #[.string a1] rfl (by (try simp only [List.map_toArray, List.map_cons, List.map_nil]); first | done | rfl | (simp only [List.length_drop, List.length_take]; rfl)) ?_; (with_reducible refine (spec_Tokens.calls k a1 t139 _ A4.out).mono ?_); rintro e w7 ⟨v140, rfl, ho0, hb⟩; refine ⟨_, rfl, ?_⟩; have n0_ := Aside0.mk (Kd.R_elder' (by (with_reducible repeat (first | apply Kd.R_alloc | apply Kd.R_drewN | apply Kd.R_drew)); exact HO138.out) (Kd.R_base ho0) hb); have n1_ := Aside0.mk (Kd.R_lower (Kd.R_new' ho0 (Kd.R_lt (by (with_reducible repeat (first | apply Kd.R_alloc | apply Kd.R_drewN | apply Kd.R_drew)); exact HO138.out))) (below_size (by repeat (first | (with_reducible first | exact HB.out | apply below_alloc | apply pw_below_drewN | apply below_drew1) | exact HB.out)))); have n2_ := Aside0.mk (below_step (by repeat (first | (with_reducible first | exact HB.out | apply below_alloc | apply pw_below_drewN | apply below_drew1) | exact HB.out)) hb); clear HO138; clear HB; have HO138 := n0_; have HO141 := n1_; have HB := n2_; clear n0_ n1_ n2_; (try clear hb); (try clear hb2); (try clear hk); (try clear hi); (try clear ho0); obtain ⟨Ao8, co8, eo8⟩ := Kd.R_slice HO138.out; subst eo8; obtain ⟨Ao9, co9, eo9⟩ := Kd.R_slice HO141.out; subst eo9) | ((with_reducible refine gate_callee (f := 48) rfl ?_); refine goesL_ (some 9) rfl rfl Try.func48 (by kernel_rfl) rfl #[.slice Ao8 t136.length co8, .slice Ao9 t139.length co9] rfl (by (try simp only [List.map_toArray, List.map_cons, List.map_nil]); first | done | rfl | (simp only [List.length_drop, List.length_take]; rfl)) ?_; (with_reducible refine (spec_collide.calls k _ _ t136 _ _ t139 t142 _ ?side1 ?side2 ?side3 ?side4 A5.out).mono ?_); (case side1 => repeat (first | exact (Kd.R_reads' HO138.out).2.2 | (with_reducible refine Kd.C_alloc ?_ _) | (with_reducible refine Kd.C_drewN ?_ _) | (with_reducible refine Kd.C_drew ?_))); (case side2 => exact (Kd.R_reads' HO138.out).2.1); (case side3 => repeat (first | exact (Kd.R_reads' HO141.out).2.2 | (with_reducible refine Kd.C_alloc ?_ _) | (with_reducible refine Kd.C_drewN ?_ _) | (with_reducible refine Kd.C_drew ?_))); (case side4 => exact (Kd.R_reads' HO141.out).2.1); rintro e w' ⟨rfl, ⟨nd, rfl⟩⟩; refine ⟨_, rfl, ?_⟩))
  go_ret
  exact ⟨by first | rfl | (simp [errW_none, errW_some] <;> rfl) | (simp [*, errW_none, errW_some] <;> rfl), by repeat (first | (with_reducible first | exact HB.out | apply below_alloc | apply pw_below_drewN | apply below_drew1) | exact HB.out)⟩

/-! ### laws_FnCollide: function 9 -/
def laws_FnCollide.j0 : Nat → ByteArray → ByteArray → Bool → Option (Bool)
  | 0, _, _, _ => none
  | k + 1, x0, x1, x12 => if x12 = true then (some true) else ((laws_valid.f k x0).bind fun t143 => (if t143 = true then ((laws_valid.f k x1).bind fun t144 => (if t144 = true then ((impl_Collide.f k x0 x1).bind fun t145 => ((spec_Collide.f k x0 x1).bind fun t146 => (some (t145 == t146)))) else (some true))) else (some true)))
def laws_FnCollide.f (k : Nat) (a0 : ByteArray) (a1 : ByteArray) : Option (Bool) := if (a0.size : Int) > 2147483647 then (laws_FnCollide.j0 k a0 a1 true) else (laws_FnCollide.j0 k a0 a1 (decide ((a1.size : Int) > 2147483647)))
theorem laws_FnCollide.mono_l : ∀ k, (∀ y0 y1 y2, LeO (laws_FnCollide.j0 k y0 y1 y2) (laws_FnCollide.j0 (k + 1) y0 y1 y2))
  | 0 => fun _ _ _ r h => by simp [laws_FnCollide.j0] at h
  | k + 1 => by
    have ih0 := laws_FnCollide.mono_l k
    · intro y0 y1 y2
      unfold laws_FnCollide.j0
      repeat' first
      | (with_reducible exact ih0 _ _ _)
      | (with_reducible exact impl_Collide.mono _ _ _)
      | (with_reducible exact laws_valid.mono _ _)
      | (with_reducible exact spec_Collide.mono _ _ _)
      | (with_reducible exact LeO.refl _)
      | (with_reducible exact LeO.none _)
      | (with_reducible refine LeO.ite ?_ ?_)
      | (with_reducible refine LeO.bind ?_ (fun _ => ?_))
      | exact ih0 _ _ _
      | exact impl_Collide.mono _ _ _
      | exact laws_valid.mono _ _
      | exact spec_Collide.mono _ _ _
      | exact LeO.none _
      | refine LeO.ite ?_ ?_
      | refine LeO.bind ?_ (fun _ => ?_)
theorem laws_FnCollide.mono : ∀ a0 a1 k, LeO (laws_FnCollide.f k a0 a1) (laws_FnCollide.f (k + 1) a0 a1) := by
  intro a0 a1 k
  have ih0 := laws_FnCollide.mono_l k
  unfold laws_FnCollide.f
  repeat' first
      | (with_reducible exact ih0 _ _ _)
      | (with_reducible exact impl_Collide.mono _ _ _)
      | (with_reducible exact laws_valid.mono _ _)
      | (with_reducible exact spec_Collide.mono _ _ _)
      | (with_reducible exact LeO.refl _)
      | (with_reducible exact LeO.none _)
      | (with_reducible refine LeO.ite ?_ ?_)
      | (with_reducible refine LeO.bind ?_ (fun _ => ?_))
      | exact ih0 _ _ _
      | exact impl_Collide.mono _ _ _
      | exact laws_valid.mono _ _
      | exact spec_Collide.mono _ _ _
      | exact LeO.none _
      | refine LeO.ite ?_ ?_
      | refine LeO.bind ?_ (fun _ => ?_)
set_option maxHeartbeats 8000000 in
set_option maxRecDepth 100000 in
theorem laws_FnCollide.calls (k : Nat) (a0 : ByteArray) (a1 : ByteArray) (r : Bool) (w : World) (h : laws_FnCollide.f k a0 a1 = some r) :
    Calls Try.prog 9 #[.string a0, .string a1] w fun e w' => e = .returned (.bool r) ∧ Below w.heap.size w w' := by
  have HB := Aside0.mk (Below.refl w.heap.size w)
  have H : (if (a0.size : Int) > 2147483647 then (laws_FnCollide.j0 k a0 a1 true) else (laws_FnCollide.j0 k a0 a1 (decide ((a1.size : Int) > 2147483647)))) = some r := h
  clear h
  have HC3 := Aside0.mk H
  clear H
  go_enter Try.func9, Try.ntmps9
  go_upto_region 1 with (fail)
  go_cut [12] (fun v12 wc => ∃ (kq : Nat) (x12_2 : Bool), v12 = .bool x12_2 ∧ Aside0 (laws_FnCollide.j0 kq a0 a1 x12_2 = some r) ∧ Aside0 (kq ≤ k) ∧ Aside0 (Below w.heap.size w wc))
  case first =>
    have H := HC3.out
    clear HC3
    by_cases c4 : (a0.size : Int) > 2147483647
    · rw [if_pos c4] at H
      have c4b0 : decide (2147483647 < (a0.size : Int)) = true := decide_eq_true c4
      have c4b1 : decide (2147483647 < a0.size) = true := decide_eq_true (by omega)
      clear c4
      (first | rw [c4b0] | (simp only [i64_w, i32_w]; rw [c4b0]) | skip)
      have H' := Aside0.mk H
      clear H
      go_wp2
      go_meet
      case rel => exact ⟨_, (true), (by first | rfl | (simp; done) | (simp [*]; done)), H', ⟨by first | omega | exact Nat.le_refl _⟩, ⟨by repeat (first | (with_reducible first | exact HB.out | apply below_alloc | apply pw_below_drewN | apply below_drew1) | exact HB.out)⟩⟩
    · rw [if_neg c4] at H
      have c4b0 : decide (2147483647 < (a0.size : Int)) = false := decide_eq_false c4
      have c4b1 : decide (2147483647 < a0.size) = false := decide_eq_false (by omega)
      clear c4
      (first | rw [c4b0] | (simp only [i64_w, i32_w]; rw [c4b0]) | skip)
      have H' := Aside0.mk H
      clear H
      go_wp2
      go_meet
      case rel => exact ⟨_, (decide ((a1.size : Int) > 2147483647)), (by first | rfl | (simp; done) | (simp [*]; done)), H', ⟨by first | omega | exact Nat.le_refl _⟩, ⟨by repeat (first | (with_reducible first | exact HB.out | apply below_alloc | apply pw_below_drewN | apply below_drew1) | exact HB.out)⟩⟩
  case rest =>
    clear HC3
    try clear p2
    try clear c4
    try clear c4b0
    try clear c4b1
    obtain ⟨kq, x12_2, rfl, HA, HJ2, HB⟩ := hcut
    cases kq with
    | zero => exact absurd HA.out (by simp [laws_FnCollide.j0])
    | succ kj2 =>
      have H := HA.out
      clear HA
      simp only [laws_FnCollide.j0] at H
      by_cases c5 : x12_2 = true
      · subst c5
        have H1 : (some true) = some r := by rw [if_pos rfl] at H; exact H
        clear H
        have H := H1
        clear H1
        obtain rfl := Option.some.inj H
        go_wp2
        go_ret
        exact ⟨by first | rfl | (simp [errW_none, errW_some] <;> rfl) | (simp [*, errW_none, errW_some] <;> rfl), by repeat (first | (with_reducible first | exact HB.out | apply below_alloc | apply pw_below_drewN | apply below_drew1) | exact HB.out)⟩
      · replace c5 := Bool.eq_false_iff.mpr c5
        subst c5
        have H1 : ((laws_valid.f kj2 a0).bind fun t143 => (if t143 = true then ((laws_valid.f kj2 a1).bind fun t144 => (if t144 = true then ((impl_Collide.f kj2 a0 a1).bind fun t145 => ((spec_Collide.f kj2 a0 a1).bind fun t146 => (some (t145 == t146)))) else (some true))) else (some true))) = some r := by rw [if_neg (show ¬ (false = true) by decide)] at H; exact H
        clear H
        have H := H1
        clear H1
        replace H := Option.bind_eq_some_iff.mp H
        obtain ⟨t143, A60, H⟩ := H
        replace H : (if t143 = true then ((laws_valid.f kj2 a1).bind fun t144 => (if t144 = true then ((impl_Collide.f kj2 a0 a1).bind fun t145 => ((spec_Collide.f kj2 a0 a1).bind fun t146 => (some (t145 == t146)))) else (some true))) else (some true)) = some r := H
        have A6 := Aside0.mk A60
        clear A60
        by_cases c7 : t143 = true
        · subst c7
          have H1 : ((laws_valid.f kj2 a1).bind fun t144 => (if t144 = true then ((impl_Collide.f kj2 a0 a1).bind fun t145 => ((spec_Collide.f kj2 a0 a1).bind fun t146 => (some (t145 == t146)))) else (some true))) = some r := by rw [if_pos rfl] at H; exact H
          clear H
          have H := H1
          clear H1
          replace H := Option.bind_eq_some_iff.mp H
          obtain ⟨t144, A80, H⟩ := H
          replace H : (if t144 = true then ((impl_Collide.f kj2 a0 a1).bind fun t145 => ((spec_Collide.f kj2 a0 a1).bind fun t146 => (some (t145 == t146)))) else (some true)) = some r := H
          have A8 := Aside0.mk A80
          clear A80
          by_cases c9 : t144 = true
          · subst c9
            have H1 : ((impl_Collide.f kj2 a0 a1).bind fun t145 => ((spec_Collide.f kj2 a0 a1).bind fun t146 => (some (t145 == t146)))) = some r := by rw [if_pos rfl] at H; exact H
            clear H
            have H := H1
            clear H1
            replace H := Option.bind_eq_some_iff.mp H
            obtain ⟨t145, A100, H⟩ := H
            replace H : ((spec_Collide.f kj2 a0 a1).bind fun t146 => (some (t145 == t146))) = some r := H
            have A10 := Aside0.mk A100
            clear A100
            replace H := Option.bind_eq_some_iff.mp H
            obtain ⟨t146, A110, H⟩ := H
            replace H : (some (t145 == t146)) = some r := H
            have A11 := Aside0.mk A110
            clear A110
            obtain rfl := Option.some.inj H
            go_wp2_with (first | ((with_reducible refine gate_callee (f := 13) rfl ?_); refine goesL_ (some 14) rfl rfl Try.func13 (by kernel_rfl) rfl #[.string a0] rfl (by (try simp only [List.map_toArray, List.map_cons, List.map_nil]); first | done | rfl | (simp only [List.length_drop, List.length_take]; rfl)) ?_; (with_reducible refine (laws_valid.calls kj2 a0 true _ A6.out).mono ?_); rintro e w12 ⟨rfl, hb⟩; refine ⟨_, rfl, ?_⟩; have n0_ := Aside0.mk (below_step (by repeat (first | (with_reducible first | exact HB.out | apply below_alloc | apply pw_below_drewN | apply below_drew1) | exact HB.out)) hb); clear HB; have HB := n0_; clear n0_; (try clear hb); (try clear hb2); (try clear hk); (try clear hi)) | (go_at_call 13; (with_reducible refine (laws_valid.calls kj2 a1 true _ A8.out).mono ?_); rintro e w13 ⟨rfl, hb⟩; have n0_ := Aside0.mk (below_step (by repeat (first | (with_reducible first | exact HB.out | apply below_alloc | apply pw_below_drewN | apply below_drew1) | exact HB.out)) hb); clear HB; have HB := n0_; clear n0_; (try clear hb); (try clear hb2); (try clear hk); (try clear hi)) | (go_at_call 25; (with_reducible refine (impl_Collide.calls kj2 a0 a1 t145 _ A10.out).mono ?_); rintro e w14 ⟨rfl, hb⟩; have n0_ := Aside0.mk (below_step (by repeat (first | (with_reducible first | exact HB.out | apply below_alloc | apply pw_below_drewN | apply below_drew1) | exact HB.out)) hb); clear HB; have HB := n0_; clear n0_; (try clear hb); (try clear hb2); (try clear hk); (try clear hi)) | (go_at_call 26; (with_reducible refine (spec_Collide.calls kj2 a0 a1 t146 _ A11.out).mono ?_); rintro e w15 ⟨rfl, hb⟩; have n0_ := Aside0.mk (below_step (by repeat (first | (with_reducible first | exact HB.out | apply below_alloc | apply pw_below_drewN | apply below_drew1) | exact HB.out)) hb); clear HB; have HB := n0_; clear n0_; (try clear hb); (try clear hb2); (try clear hk); (try clear hi)))
            go_ret
            exact ⟨by first | rfl | (simp [errW_none, errW_some] <;> rfl) | (simp [*, errW_none, errW_some] <;> rfl), by repeat (first | (with_reducible first | exact HB.out | apply below_alloc | apply pw_below_drewN | apply below_drew1) | exact HB.out)⟩
          · replace c9 := Bool.eq_false_iff.mpr c9
            subst c9
            have H1 : (some true) = some r := by rw [if_neg (show ¬ (false = true) by decide)] at H; exact H
            clear H
            have H := H1
            clear H1
            obtain rfl := Option.some.inj H
            go_wp2_with (first | ((with_reducible refine gate_callee (f := 13) rfl ?_); refine goesL_ (some 14) rfl rfl Try.func13 (by kernel_rfl) rfl #[.string a0] rfl (by (try simp only [List.map_toArray, List.map_cons, List.map_nil]); first | done | rfl | (simp only [List.length_drop, List.length_take]; rfl)) ?_; (with_reducible refine (laws_valid.calls kj2 a0 true _ A6.out).mono ?_); rintro e w16 ⟨rfl, hb⟩; refine ⟨_, rfl, ?_⟩; have n0_ := Aside0.mk (below_step (by repeat (first | (with_reducible first | exact HB.out | apply below_alloc | apply pw_below_drewN | apply below_drew1) | exact HB.out)) hb); clear HB; have HB := n0_; clear n0_; (try clear hb); (try clear hb2); (try clear hk); (try clear hi)) | (go_at_call 13; (with_reducible refine (laws_valid.calls kj2 a1 false _ A8.out).mono ?_); rintro e w17 ⟨rfl, hb⟩; have n0_ := Aside0.mk (below_step (by repeat (first | (with_reducible first | exact HB.out | apply below_alloc | apply pw_below_drewN | apply below_drew1) | exact HB.out)) hb); clear HB; have HB := n0_; clear n0_; (try clear hb); (try clear hb2); (try clear hk); (try clear hi)))
            go_ret
            exact ⟨by first | rfl | (simp [errW_none, errW_some] <;> rfl) | (simp [*, errW_none, errW_some] <;> rfl), by repeat (first | (with_reducible first | exact HB.out | apply below_alloc | apply pw_below_drewN | apply below_drew1) | exact HB.out)⟩
        · replace c7 := Bool.eq_false_iff.mpr c7
          subst c7
          have H1 : (some true) = some r := by rw [if_neg (show ¬ (false = true) by decide)] at H; exact H
          clear H
          have H := H1
          clear H1
          obtain rfl := Option.some.inj H
          go_wp2_with (first | ((with_reducible refine gate_callee (f := 13) rfl ?_); refine goesL_ (some 14) rfl rfl Try.func13 (by kernel_rfl) rfl #[.string a0] rfl (by (try simp only [List.map_toArray, List.map_cons, List.map_nil]); first | done | rfl | (simp only [List.length_drop, List.length_take]; rfl)) ?_; (with_reducible refine (laws_valid.calls kj2 a0 false _ A6.out).mono ?_); rintro e w18 ⟨rfl, hb⟩; refine ⟨_, rfl, ?_⟩; have n0_ := Aside0.mk (below_step (by repeat (first | (with_reducible first | exact HB.out | apply below_alloc | apply pw_below_drewN | apply below_drew1) | exact HB.out)) hb); clear HB; have HB := n0_; clear n0_; (try clear hb); (try clear hb2); (try clear hk); (try clear hi)))
          go_ret
          exact ⟨by first | rfl | (simp [errW_none, errW_some] <;> rfl) | (simp [*, errW_none, errW_some] <;> rfl), by repeat (first | (with_reducible first | exact HB.out | apply below_alloc | apply pw_below_drewN | apply below_drew1) | exact HB.out)⟩

/-- THE ONE PURE STATEMENT of laws_FnCollide: yours. -/
def laws_FnCollide.Pure : Prop := ∀ (a0 : ByteArray) (a1 : ByteArray), a0.size ≤ 140737488351232 → a1.size ≤ 140737488351232 → ∃ k, laws_FnCollide.f k a0 a1 = some true
theorem laws_FnCollide.walk (P : laws_FnCollide.Pure) (a0 : ByteArray) (a1 : ByteArray) (w : World) (w0 : a0.size ≤ 140737488351232) (w1 : a1.size ≤ 140737488351232) :
    Calls Try.prog 9 #[.string a0, .string a1] w fun e w' => e = .returned (.bool true) ∧ Below w.heap.size w w' := by
  obtain ⟨k, h⟩ := P a0 a1 w0 w1
  refine (laws_FnCollide.calls k a0 a1 true w h).mono ?_
  rintro e w' ⟨rfl, hd⟩
  exact ⟨rfl, hd⟩

end Go.Proofs.Ytaobajfdnidkfaa.PFnCollide
