-- Written by hprint.py (this session's program, over the kit's printing program, with this session's own contracts in it). Not trusted: Lean checks it.
import Derived.Test.YtmfblbjklmgncaaPFnHeaderOthersx0
import Derived.Test.YtmfblbjklmgncaaPFnHeaderOthersx1
import Derived.Test.YtmfblbjklmgncaaPFnHeaderOthersx3
namespace Go.Proofs.Ytmfblbjklmgncaa.PFnHeaderOthers
open Go.RowKit Go.Proofs.YtmfblbjklmgncaaW.PrintWords Go.Proofs.YtmfblbjklmgncaaW.PrintLast Go.Proofs.YtmfblbjklmgncaaW.PrintMore
attribute [local go_sem] max2_int min2_int max_two min_two max_three min_three max_four min_four   -- for this text's walks alone
set_option linter.unusedVariables false
set_option linter.unusedSimpArgs false

/-! ### spec_Get: function 18 -/
def spec_Get.l0 : Nat → List (S37) → ByteArray → Int → Option (ByteArray × Bool)
  | 0, _, _, _ => none
  | k + 1, x0, x1, x6 => if x6 < (x0.length : Int) then (if 0 ≤ x6 then (if ((rd_T37 x0 x6).f0).toList = x1.toList then (some ((rd_T37 x0 x6).f1, true)) else (spec_Get.l0 k x0 x1 (wrap64 (x6 + 1)))) else (none)) else (some ((⟨#[]⟩ : ByteArray), false))
def spec_Get.f (k : Nat) (l0 : List (S37)) (a1 : ByteArray) : Option (ByteArray × Bool) := spec_Get.l0 k l0 a1 0
theorem spec_Get.mono_l : ∀ k, (∀ y0 y1 y2, LeO (spec_Get.l0 k y0 y1 y2) (spec_Get.l0 (k + 1) y0 y1 y2))
  | 0 => fun _ _ _ r h => by simp [spec_Get.l0] at h
  | k + 1 => by
    have ih0 := spec_Get.mono_l k
    · intro y0 y1 y2
      unfold spec_Get.l0
      repeat' first
      | (with_reducible exact ih0 _ _ _)
      | (with_reducible exact LeO.refl _)
      | (with_reducible exact LeO.none _)
      | (with_reducible refine LeO.ite ?_ ?_)
      | (with_reducible refine LeO.bind ?_ (fun _ => ?_))
      | exact ih0 _ _ _
      | exact LeO.none _
      | refine LeO.ite ?_ ?_
      | refine LeO.bind ?_ (fun _ => ?_)
theorem spec_Get.mono : ∀ a0 a1 k, LeO (spec_Get.f k a0 a1) (spec_Get.f (k + 1) a0 a1) := by
  intro a0 a1 k
  have ih0 := spec_Get.mono_l k
  unfold spec_Get.f
  repeat' first
      | (with_reducible exact ih0 _ _ _)
      | (with_reducible exact LeO.refl _)
      | (with_reducible exact LeO.none _)
      | (with_reducible refine LeO.ite ?_ ?_)
      | (with_reducible refine LeO.bind ?_ (fun _ => ?_))
      | exact ih0 _ _ _
      | exact LeO.none _
      | refine LeO.ite ?_ ?_
      | refine LeO.bind ?_ (fun _ => ?_)
set_option maxHeartbeats 8000000 in
set_option maxRecDepth 100000 in
theorem spec_Get.calls (k : Nat) (A0 : Option Addr) (c0 : Nat) (l0 : List (S37)) (a1 : ByteArray) (r1 : ByteArray) (r2 : Bool) (w : World) (hr0 : Kd.C k37 w A0 l0.length l0) (hc0 : l0.length ≤ c0) (h : spec_Get.f k l0 a1 = some (r1, r2)) :
    Calls Try.prog 18 #[.slice A0 l0.length c0, .string a1] w fun e w' => e = .returned (.tuple #[.string r1, .bool r2]) ∧ Drawn0 w w' := by
  have HR0 := Aside0.mk hr0
  have HC0 := Aside0.mk hc0
  clear hr0 hc0
  have H : (spec_Get.l0 k l0 a1 0) = some (r1, r2) := h
  clear h
  have H' := Aside0.mk H
  clear H
  go_enter Try.func18, Try.ntmps18
  go_wp2
  go_loopg [6] k (fun kq v6 w' => ∃ (x6_1 : Int), v6 = .int .i64 x6_1 ∧ Aside0 (spec_Get.l0 kq l0 a1 x6_1 = some (r1, r2)) ∧ Aside0 (kq ≤ k) ∧ Drawn0 w w')
  case atStart => exact ⟨(0), (by first | rfl | (simp; done) | (simp [*]; done)), H', ⟨Nat.le_refl _⟩, by repeat (first | exact Drawn0.refl _ | apply Drawn0.step)⟩
  case round =>
    clear H'
    try clear c1
    try clear p2
    obtain ⟨x6_1, rfl, HA, HK1, ⟨m1, rfl⟩⟩ := hrel
    cases gk with
    | zero => exact absurd HA.out (by simp [spec_Get.l0])
    | succ k1 =>
      have H := HA.out
      clear HA
      simp only [spec_Get.l0] at H
      by_cases c3 : x6_1 < (l0.length : Int)
      · rw [if_pos c3] at H
        have c3b0 : decide (x6_1 < (l0.length : Int)) = true := decide_eq_true c3
        clear c3
        by_cases c4 : 0 ≤ x6_1
        · rw [if_pos c4] at H
          have c4b0 : decide (0 ≤ x6_1) = true := decide_eq_true c4
          clear c4
          by_cases c5 : ((rd_T37 l0 x6_1).f0).toList = a1.toList
          · rw [if_pos c5] at H
            have c5b0 : (((rd_T37 l0 x6_1).f0).toList == a1.toList) = true := beq_iff_eq.mpr c5
            have c5b1 : (((rd_T37 l0 x6_1).f0).toList != a1.toList) = false := bne_eq_false_iff_eq.mpr c5
            clear c5
            simp only [Option.some.injEq, Prod.mk.injEq] at H
            obtain ⟨rfl, rfl⟩ := H
            have p127 : 0 ≤ (x6_1 : Int) := of_decide_eq_true (by first | (with_reducible assumption) | assumption)
            have q127 : x6_1 < (l0.length : Int) := of_decide_eq_true (by first | (with_reducible assumption) | assumption)
            obtain ⟨ad127, e127, hx127_0, hx127_1⟩ := at_T37 HR0.out x6_1 p127 q127
            cases e127
            replace p127 := eq_true p127
            replace q127 := eq_true q127
            have p128 : 0 ≤ (x6_1 : Int) := of_decide_eq_true (by first | (with_reducible assumption) | assumption)
            have q128 : x6_1 < (l0.length : Int) := of_decide_eq_true (by first | (with_reducible assumption) | assumption)
            obtain ⟨ad128, e128, hx128_0, hx128_1⟩ := at_T37 HR0.out x6_1 p128 q128
            obtain rfl : ad127 = ad128 := (by injection e128)
            replace p128 := eq_true p128
            replace q128 := eq_true q128
            go_wp2
            go_ret2
            exact ⟨by first | rfl | (simp; done) | (simp [*]; done) | (simp; generalize ByteArray.toList _ = l_; cases l_ <;> rfl), by repeat (first | exact Drawn0.refl _ | apply Drawn0.step)⟩
          · rw [if_neg c5] at H
            have c5b0 : (((rd_T37 l0 x6_1).f0).toList == a1.toList) = false := beq_eq_false_iff_ne.mpr c5
            have c5b1 : (((rd_T37 l0 x6_1).f0).toList != a1.toList) = true := bne_iff_ne.mpr c5
            have H' := Aside0.mk H
            clear H
            have p127 : 0 ≤ (x6_1 : Int) := of_decide_eq_true (by first | (with_reducible assumption) | assumption)
            have q127 : x6_1 < (l0.length : Int) := of_decide_eq_true (by first | (with_reducible assumption) | assumption)
            obtain ⟨ad127, e127, hx127_0, hx127_1⟩ := at_T37 HR0.out x6_1 p127 q127
            cases e127
            replace p127 := eq_true p127
            replace q127 := eq_true q127
            go_wp2
            go_roundg k1
            case measure => have := HK1.out; omega
            case rel => exact ⟨(wrap64 (x6_1 + 1)), (by first | rfl | (simp; done) | (simp [*]; done)), H', ⟨by have := HK1.out; omega⟩, by repeat (first | exact Drawn0.refl _ | apply Drawn0.step)⟩
        · rw [if_neg c4] at H
          exact absurd H (by simp)
      · rw [if_neg c3] at H
        have c3b0 : decide (x6_1 < (l0.length : Int)) = false := decide_eq_false c3
        clear c3
        simp only [Option.some.injEq, Prod.mk.injEq] at H
        obtain ⟨rfl, rfl⟩ := H
        go_wp2
        go_ret2
        exact ⟨by first | rfl | (simp; done) | (simp [*]; done) | (simp; generalize ByteArray.toList _ = l_; cases l_ <;> rfl), by repeat (first | exact Drawn0.refl _ | apply Drawn0.step)⟩

/-! ### laws_times: function 19 -/
def laws_times.l0 : Nat → ByteArray → ByteArray → Int → Int → Option (Int)
  | 0, _, _, _, _ => none
  | k + 1, x0, x1, x5, x6 => if (wrap64 (x6 + (x1.size : Int))) ≤ (x0.size : Int) then (if 0 ≤ x6 then (if x6 ≤ (wrap64 (x6 + (x1.size : Int))) then (if (x0.extract (x6 : Int).toNat ((wrap64 (x6 + (x1.size : Int))) : Int).toNat).toList = x1.toList then (laws_times.l0 k x0 x1 (wrap64 (x5 + 1)) (wrap64 (x6 + 1))) else (laws_times.l0 k x0 x1 x5 (wrap64 (x6 + 1)))) else (none)) else (none)) else (some x5)
def laws_times.f (k : Nat) (a0 : ByteArray) (a1 : ByteArray) : Option (Int) := laws_times.l0 k a0 a1 0 0
theorem laws_times.mono_l : ∀ k, (∀ y0 y1 y2 y3, LeO (laws_times.l0 k y0 y1 y2 y3) (laws_times.l0 (k + 1) y0 y1 y2 y3))
  | 0 => fun _ _ _ _ r h => by simp [laws_times.l0] at h
  | k + 1 => by
    have ih0 := laws_times.mono_l k
    · intro y0 y1 y2 y3
      unfold laws_times.l0
      repeat' first
      | (with_reducible exact ih0 _ _ _ _)
      | (with_reducible exact LeO.refl _)
      | (with_reducible exact LeO.none _)
      | (with_reducible refine LeO.ite ?_ ?_)
      | (with_reducible refine LeO.bind ?_ (fun _ => ?_))
      | exact ih0 _ _ _ _
      | exact LeO.none _
      | refine LeO.ite ?_ ?_
      | refine LeO.bind ?_ (fun _ => ?_)
theorem laws_times.mono : ∀ a0 a1 k, LeO (laws_times.f k a0 a1) (laws_times.f (k + 1) a0 a1) := by
  intro a0 a1 k
  have ih0 := laws_times.mono_l k
  unfold laws_times.f
  repeat' first
      | (with_reducible exact ih0 _ _ _ _)
      | (with_reducible exact LeO.refl _)
      | (with_reducible exact LeO.none _)
      | (with_reducible refine LeO.ite ?_ ?_)
      | (with_reducible refine LeO.bind ?_ (fun _ => ?_))
      | exact ih0 _ _ _ _
      | exact LeO.none _
      | refine LeO.ite ?_ ?_
      | refine LeO.bind ?_ (fun _ => ?_)
set_option maxHeartbeats 8000000 in
set_option maxRecDepth 100000 in
theorem laws_times.calls (k : Nat) (a0 : ByteArray) (a1 : ByteArray) (r : Int) (w : World) (h : laws_times.f k a0 a1 = some r) :
    Calls Try.prog 19 #[.string a0, .string a1] w fun e w' => e = .returned (.int .i64 r) ∧ Drawn0 w w' := by
  have H : (laws_times.l0 k a0 a1 0 0) = some r := h
  clear h
  have H' := Aside0.mk H
  clear H
  go_enter Try.func19, Try.ntmps19
  go_wp2
  go_loopg [5, 6] k (fun kq v5 v6 w' => ∃ (x5_1 : Int) (x6_1 : Int), v5 = .int .i64 x5_1 ∧ v6 = .int .i64 x6_1 ∧ Aside0 (laws_times.l0 kq a0 a1 x5_1 x6_1 = some r) ∧ Aside0 (kq ≤ k) ∧ Drawn0 w w')
  case atStart => exact ⟨(0), (0), (by first | rfl | (simp; done) | (simp [*]; done)), (by first | rfl | (simp; done) | (simp [*]; done)), H', ⟨Nat.le_refl _⟩, by repeat (first | exact Drawn0.refl _ | apply Drawn0.step)⟩
  case round =>
    clear H'
    try clear c1
    try clear p2
    obtain ⟨x5_1, x6_1, rfl, rfl, HA, HK1, ⟨m1, rfl⟩⟩ := hrel
    cases gk with
    | zero => exact absurd HA.out (by simp [laws_times.l0])
    | succ k1 =>
      have H := HA.out
      clear HA
      simp only [laws_times.l0] at H
      by_cases c3 : (wrap64 (x6_1 + (a1.size : Int))) ≤ (a0.size : Int)
      · rw [if_pos c3] at H
        have c3b0 : decide ((wrap64 (x6_1 + (a1.size : Int))) ≤ (a0.size : Int)) = true := decide_eq_true c3
        clear c3
        by_cases c4 : 0 ≤ x6_1
        · rw [if_pos c4] at H
          have c4b0 := eq_true c4
          have c4b1 : decide (0 ≤ x6_1) = true := decide_eq_true c4
          clear c4
          by_cases c5 : x6_1 ≤ (wrap64 (x6_1 + (a1.size : Int)))
          · rw [if_pos c5] at H
            have c5b0 := eq_true c5
            have c5b1 : decide (x6_1 ≤ (wrap64 (x6_1 + (a1.size : Int)))) = true := decide_eq_true c5
            have c6b0 := eq_true (of_decide_eq_true (by first | (with_reducible assumption) | assumption) : (wrap64 (x6_1 + (a1.size : Int))) ≤ (a0.size : Int))
            by_cases c7 : (a0.extract (x6_1 : Int).toNat ((wrap64 (x6_1 + (a1.size : Int))) : Int).toNat).toList = a1.toList
            · rw [if_pos c7] at H
              have c7b0 : ((a0.extract (x6_1 : Int).toNat ((wrap64 (x6_1 + (a1.size : Int))) : Int).toNat).toList == a1.toList) = true := beq_iff_eq.mpr c7
              have c7b1 : ((a0.extract (x6_1 : Int).toNat ((wrap64 (x6_1 + (a1.size : Int))) : Int).toNat).toList != a1.toList) = false := bne_eq_false_iff_eq.mpr c7
              clear c7
              have H' := Aside0.mk H
              clear H
              go_wp2
              go_roundg k1
              case measure => have := HK1.out; omega
              case rel => exact ⟨(wrap64 (x5_1 + 1)), (wrap64 (x6_1 + 1)), (by first | rfl | (simp; done) | (simp [*]; done)), (by first | rfl | (simp; done) | (simp [*]; done)), H', ⟨by have := HK1.out; omega⟩, by repeat (first | exact Drawn0.refl _ | apply Drawn0.step)⟩
            · rw [if_neg c7] at H
              have c7b0 : ((a0.extract (x6_1 : Int).toNat ((wrap64 (x6_1 + (a1.size : Int))) : Int).toNat).toList == a1.toList) = false := beq_eq_false_iff_ne.mpr c7
              have c7b1 : ((a0.extract (x6_1 : Int).toNat ((wrap64 (x6_1 + (a1.size : Int))) : Int).toNat).toList != a1.toList) = true := bne_iff_ne.mpr c7
              have H' := Aside0.mk H
              clear H
              go_wp2
              go_roundg k1
              case measure => have := HK1.out; omega
              case rel => exact ⟨(x5_1), (wrap64 (x6_1 + 1)), (by first | rfl | (simp; done) | (simp [*]; done)), (by first | rfl | (simp; done) | (simp [*]; done)), H', ⟨by have := HK1.out; omega⟩, by repeat (first | exact Drawn0.refl _ | apply Drawn0.step)⟩
          · rw [if_neg c5] at H
            exact absurd H (by simp)
        · rw [if_neg c4] at H
          exact absurd H (by simp)
      · rw [if_neg c3] at H
        have c3b0 : decide ((wrap64 (x6_1 + (a1.size : Int))) ≤ (a0.size : Int)) = false := decide_eq_false c3
        clear c3
        obtain rfl := Option.some.inj H
        go_wp2
        go_ret
        exact ⟨by first | rfl | (simp; done) | (simp [*]; done) | (simp; generalize ByteArray.toList _ = l_; cases l_ <;> rfl), by repeat (first | exact Drawn0.refl _ | apply Drawn0.step)⟩

/-! ### laws_knownKey: function 7 -/
mutual
def laws_knownKey.j0 : Nat → List (S37) → ByteArray → Int → Option (Bool)
  | 0, _, _, _ => none
  | k + 1, x0, x1, x5 => if (x1.size : Int) > 40 then (laws_knownKey.j1 k x0 x1 true) else ((spec_Header.f k x0).bind fun t131 => ((laws_times.f k t131 x1).bind fun t132 => (laws_knownKey.j1 k x0 x1 (t132 != x5))))
def laws_knownKey.j1 : Nat → List (S37) → ByteArray → Bool → Option (Bool)
  | 0, _, _, _ => none
  | k + 1, x0, x1, x26 => if x26 = true then (some false) else (laws_knownKey.l0 k x0 x1 0)
def laws_knownKey.l0 : Nat → List (S37) → ByteArray → Int → Option (Bool)
  | 0, _, _, _ => none
  | k + 1, x0, x1, x8 => if x8 < (x0.length : Int) then (if 0 ≤ x8 then (if ((rd_T37 x0 x8).f0).toList = x1.toList then (laws_knownKey.l0 k x0 x1 (wrap64 (x8 + 1))) else ((laws_lower.f k ((rd_T37 x0 x8).f0)).bind fun t136 => ((laws_lower.f k x1).bind fun t137 => (if t136.toList = t137.toList then (some false) else (laws_knownKey.l0 k x0 x1 (wrap64 (x8 + 1))))))) else (none)) else ((spec_Token.f k x1).bind fun t133 => (if t133 = true then (some (decide ((x1.size : Int) ≤ 40))) else (some false)))
end
def laws_knownKey.f (k : Nat) (l0 : List (S37)) (a1 : ByteArray) : Option (Bool) := (spec_Get.f k l0 a1).bind fun bt129 => (if bt129.2 = true then (laws_knownKey.j0 k l0 a1 1) else (laws_knownKey.j0 k l0 a1 0))
theorem laws_knownKey.mono_l : ∀ k, (∀ y0 y1 y2, LeO (laws_knownKey.j0 k y0 y1 y2) (laws_knownKey.j0 (k + 1) y0 y1 y2)) ∧ (∀ y0 y1 y2, LeO (laws_knownKey.j1 k y0 y1 y2) (laws_knownKey.j1 (k + 1) y0 y1 y2)) ∧ (∀ y0 y1 y2, LeO (laws_knownKey.l0 k y0 y1 y2) (laws_knownKey.l0 (k + 1) y0 y1 y2))
  | 0 => ⟨fun _ _ _ r h => by simp [laws_knownKey.j0] at h, fun _ _ _ r h => by simp [laws_knownKey.j1] at h, fun _ _ _ r h => by simp [laws_knownKey.l0] at h⟩
  | k + 1 => by
    obtain ⟨ih0, ih1, ih2⟩ := laws_knownKey.mono_l k
    refine ⟨?_, ?_, ?_⟩
    · intro y0 y1 y2
      unfold laws_knownKey.j0
      repeat' first
      | (with_reducible exact ih0 _ _ _)
      | (with_reducible exact ih1 _ _ _)
      | (with_reducible exact ih2 _ _ _)
      | (with_reducible exact laws_lower.mono _ _)
      | (with_reducible exact laws_times.mono _ _ _)
      | (with_reducible exact spec_Get.mono _ _ _)
      | (with_reducible exact spec_Header.mono _ _)
      | (with_reducible exact spec_Token.mono _ _)
      | (with_reducible exact LeO.refl _)
      | (with_reducible exact LeO.none _)
      | (with_reducible refine LeO.ite ?_ ?_)
      | (with_reducible refine LeO.bind ?_ (fun _ => ?_))
      | exact ih0 _ _ _
      | exact ih1 _ _ _
      | exact ih2 _ _ _
      | exact laws_lower.mono _ _
      | exact laws_times.mono _ _ _
      | exact spec_Get.mono _ _ _
      | exact spec_Header.mono _ _
      | exact spec_Token.mono _ _
      | exact LeO.none _
      | refine LeO.ite ?_ ?_
      | refine LeO.bind ?_ (fun _ => ?_)
    · intro y0 y1 y2
      unfold laws_knownKey.j1
      repeat' first
      | (with_reducible exact ih0 _ _ _)
      | (with_reducible exact ih1 _ _ _)
      | (with_reducible exact ih2 _ _ _)
      | (with_reducible exact laws_lower.mono _ _)
      | (with_reducible exact laws_times.mono _ _ _)
      | (with_reducible exact spec_Get.mono _ _ _)
      | (with_reducible exact spec_Header.mono _ _)
      | (with_reducible exact spec_Token.mono _ _)
      | (with_reducible exact LeO.refl _)
      | (with_reducible exact LeO.none _)
      | (with_reducible refine LeO.ite ?_ ?_)
      | (with_reducible refine LeO.bind ?_ (fun _ => ?_))
      | exact ih0 _ _ _
      | exact ih1 _ _ _
      | exact ih2 _ _ _
      | exact laws_lower.mono _ _
      | exact laws_times.mono _ _ _
      | exact spec_Get.mono _ _ _
      | exact spec_Header.mono _ _
      | exact spec_Token.mono _ _
      | exact LeO.none _
      | refine LeO.ite ?_ ?_
      | refine LeO.bind ?_ (fun _ => ?_)
    · intro y0 y1 y2
      unfold laws_knownKey.l0
      repeat' first
      | (with_reducible exact ih0 _ _ _)
      | (with_reducible exact ih1 _ _ _)
      | (with_reducible exact ih2 _ _ _)
      | (with_reducible exact laws_lower.mono _ _)
      | (with_reducible exact laws_times.mono _ _ _)
      | (with_reducible exact spec_Get.mono _ _ _)
      | (with_reducible exact spec_Header.mono _ _)
      | (with_reducible exact spec_Token.mono _ _)
      | (with_reducible exact LeO.refl _)
      | (with_reducible exact LeO.none _)
      | (with_reducible refine LeO.ite ?_ ?_)
      | (with_reducible refine LeO.bind ?_ (fun _ => ?_))
      | exact ih0 _ _ _
      | exact ih1 _ _ _
      | exact ih2 _ _ _
      | exact laws_lower.mono _ _
      | exact laws_times.mono _ _ _
      | exact spec_Get.mono _ _ _
      | exact spec_Header.mono _ _
      | exact spec_Token.mono _ _
      | exact LeO.none _
      | refine LeO.ite ?_ ?_
      | refine LeO.bind ?_ (fun _ => ?_)
theorem laws_knownKey.mono : ∀ a0 a1 k, LeO (laws_knownKey.f k a0 a1) (laws_knownKey.f (k + 1) a0 a1) := by
  intro a0 a1 k
  obtain ⟨ih0, ih1, ih2⟩ := laws_knownKey.mono_l k
  unfold laws_knownKey.f
  repeat' first
      | (with_reducible exact ih0 _ _ _)
      | (with_reducible exact ih1 _ _ _)
      | (with_reducible exact ih2 _ _ _)
      | (with_reducible exact laws_lower.mono _ _)
      | (with_reducible exact laws_times.mono _ _ _)
      | (with_reducible exact spec_Get.mono _ _ _)
      | (with_reducible exact spec_Header.mono _ _)
      | (with_reducible exact spec_Token.mono _ _)
      | (with_reducible exact LeO.refl _)
      | (with_reducible exact LeO.none _)
      | (with_reducible refine LeO.ite ?_ ?_)
      | (with_reducible refine LeO.bind ?_ (fun _ => ?_))
      | exact ih0 _ _ _
      | exact ih1 _ _ _
      | exact ih2 _ _ _
      | exact laws_lower.mono _ _
      | exact laws_times.mono _ _ _
      | exact spec_Get.mono _ _ _
      | exact spec_Header.mono _ _
      | exact spec_Token.mono _ _
      | exact LeO.none _
      | refine LeO.ite ?_ ?_
      | refine LeO.bind ?_ (fun _ => ?_)
set_option maxHeartbeats 8000000 in
set_option maxRecDepth 100000 in
theorem laws_knownKey.calls (k : Nat) (A0 : Option Addr) (c0 : Nat) (l0 : List (S37)) (a1 : ByteArray) (r : Bool) (w : World) (hr0 : Kd.C k37 w A0 l0.length l0) (hc0 : l0.length ≤ c0) (h : laws_knownKey.f k l0 a1 = some r) :
    Calls Try.prog 7 #[.slice A0 l0.length c0, .string a1] w fun e w' => e = .returned (.bool r) ∧ Below w.heap.size w w' := by
  have HR0 := Aside0.mk hr0
  have HC0 := Aside0.mk hc0
  clear hr0 hc0
  have HB := Aside0.mk (Below.refl w.heap.size w)
  have H : ((spec_Get.f k l0 a1).bind fun bt129 => (if bt129.2 = true then (laws_knownKey.j0 k l0 a1 1) else (laws_knownKey.j0 k l0 a1 0))) = some r := h
  clear h
  replace H := Option.bind_eq_some_iff.mp H
  obtain ⟨⟨t129, t130⟩, A30, H⟩ := H
  replace H : (if t130 = true then (laws_knownKey.j0 k l0 a1 1) else (laws_knownKey.j0 k l0 a1 0)) = some r := H
  have A3 := Aside0.mk A30
  clear A30
  have HC4 := Aside0.mk H
  clear H
  go_enter Try.func7, Try.ntmps7
  go_upto_if 15 with (first | ((with_reducible refine gate_callee (f := 18) rfl ?_); refine goesL_ (some 12) rfl rfl Try.func18 (by kernel_rfl) rfl #[.slice A0 l0.length c0, .string a1] rfl (by (try simp only [List.map_toArray, List.map_cons, List.map_nil]); first | done | rfl | (simp only [List.length_drop, List.length_take]; rfl)) ?_; (with_reducible refine (spec_Get.calls k _ _ l0 a1 t129 t130 _ ?side1 ?side2 A3.out).mono ?_); (case side1 => repeat (first | exact HR0.out | (with_reducible refine Kd.C_alloc ?_ _) | (with_reducible refine Kd.C_drewN ?_ _) | (with_reducible refine Kd.C_drew ?_))); (case side2 => exact HC0.out); rintro e w' ⟨rfl, ⟨nd, rfl⟩⟩; refine ⟨_, rfl, ?_⟩))
  (try simp only [Act.put, List.setIfInBounds_toArray, List.set_cons_zero, List.set_cons_succ])
  go_cut [5] (fun v5 wc => ∃ (kq : Nat) (x5_3 : Int), v5 = .int .i64 x5_3 ∧ Aside0 (laws_knownKey.j0 kq l0 a1 x5_3 = some r) ∧ Aside0 (kq ≤ k) ∧ Aside0 (Below w.heap.size w wc))
  case first =>
    have H := HC4.out
    clear HC4
    by_cases c5 : t130 = true
    · subst c5
      have H1 : (laws_knownKey.j0 k l0 a1 1) = some r := by rw [if_pos rfl] at H; exact H
      clear H
      have H := H1
      clear H1
      have H' := Aside0.mk H
      clear H
      go_wp2
      go_meet
      case rel => exact ⟨_, (1), (by first | rfl | (simp; done) | (simp [*]; done)), H', ⟨by first | omega | exact Nat.le_refl _⟩, ⟨by repeat (first | (with_reducible first | exact HB.out | apply below_alloc | apply pw_below_drewN | apply below_drew1) | exact HB.out)⟩⟩
    · replace c5 := Bool.eq_false_iff.mpr c5
      subst c5
      have H1 : (laws_knownKey.j0 k l0 a1 0) = some r := by rw [if_neg (show ¬ (false = true) by decide)] at H; exact H
      clear H
      have H := H1
      clear H1
      have H' := Aside0.mk H
      clear H
      go_wp2
      go_meet
      case rel => exact ⟨_, (0), (by first | rfl | (simp; done) | (simp [*]; done)), H', ⟨by first | omega | exact Nat.le_refl _⟩, ⟨by repeat (first | (with_reducible first | exact HB.out | apply below_alloc | apply pw_below_drewN | apply below_drew1) | exact HB.out)⟩⟩
  case rest =>
    clear HC4
    try clear c1
    try clear p2
    try clear c5
    obtain ⟨kq, x5_3, rfl, HA, HJ3, HB⟩ := hcut
    cases kq with
    | zero => exact absurd HA.out (by simp [laws_knownKey.j0])
    | succ kj3 =>
      have H := HA.out
      clear HA
      simp only [laws_knownKey.j0] at H
      have HC6 := Aside0.mk H
      clear H
      go_upto_region 5 with (fail)
      go_cut [26] (fun v26 wc => ∃ (kq : Nat) (x26_5 : Bool), v26 = .bool x26_5 ∧ Aside0 (laws_knownKey.j1 kq l0 a1 x26_5 = some r) ∧ Aside0 (kq ≤ kj3) ∧ Aside0 (Below w.heap.size w wc))
      case first =>
        have H := HC6.out
        clear HC6
        by_cases c7 : (a1.size : Int) > 40
        · rw [if_pos c7] at H
          have c7b0 : decide (40 < (a1.size : Int)) = true := decide_eq_true c7
          have c7b1 : decide (40 < a1.size) = true := decide_eq_true (by omega)
          clear c7
          (first | rw [c7b0] | (simp only [i64_w, i32_w]; rw [c7b0]) | skip)
          have H' := Aside0.mk H
          clear H
          go_wp2
          go_meet
          case rel => exact ⟨_, (true), (by first | rfl | (simp; done) | (simp [*]; done)), H', ⟨by have := HJ3.out; first | omega | exact Nat.le_refl _⟩, ⟨by repeat (first | (with_reducible first | exact HB.out | apply below_alloc | apply pw_below_drewN | apply below_drew1) | exact HB.out)⟩⟩
        · rw [if_neg c7] at H
          have c7b0 : decide (40 < (a1.size : Int)) = false := decide_eq_false c7
          have c7b1 : decide (40 < a1.size) = false := decide_eq_false (by omega)
          clear c7
          (first | rw [c7b0] | (simp only [i64_w, i32_w]; rw [c7b0]) | skip)
          replace H := Option.bind_eq_some_iff.mp H
          obtain ⟨t131, A80, H⟩ := H
          replace H : ((laws_times.f kj3 t131 a1).bind fun t132 => (laws_knownKey.j1 kj3 l0 a1 (t132 != x5_3))) = some r := H
          have A8 := Aside0.mk A80
          clear A80
          replace H := Option.bind_eq_some_iff.mp H
          obtain ⟨t132, A90, H⟩ := H
          replace H : (laws_knownKey.j1 kj3 l0 a1 (t132 != x5_3)) = some r := H
          have A9 := Aside0.mk A90
          clear A90
          have H' := Aside0.mk H
          clear H
          go_wp2_with (first | (go_at_call 10; (with_reducible refine (spec_Header.calls kj3 _ _ l0 t131 _ ?side1 ?side2 A8.out).mono ?_); (case side1 => repeat (first | exact (Kd.C_below HR0.out HB.out) | (with_reducible refine Kd.C_alloc ?_ _) | (with_reducible refine Kd.C_drewN ?_ _) | (with_reducible refine Kd.C_drew ?_))); (case side2 => exact HC0.out); rintro e w' ⟨rfl, ⟨nd, rfl⟩⟩) | (go_at_call 19; (with_reducible refine (laws_times.calls kj3 t131 a1 t132 _ A9.out).mono ?_); rintro e w' ⟨rfl, ⟨nd, rfl⟩⟩))
          go_meet
          case rel => exact ⟨_, ((t132 != x5_3)), (by first | rfl | (simp; done) | (simp [*]; done)), H', ⟨by have := HJ3.out; first | omega | exact Nat.le_refl _⟩, ⟨by repeat (first | (with_reducible first | exact HB.out | apply below_alloc | apply pw_below_drewN | apply below_drew1) | exact HB.out)⟩⟩
      case rest =>
        clear HC6
        try clear c1
        try clear p2
        try clear c5
        try clear c7
        try clear c7b0
        try clear c7b1
        try clear p2
        obtain ⟨kq, x26_5, rfl, HA, HJ5, HB⟩ := hcut
        cases kq with
        | zero => exact absurd HA.out (by simp [laws_knownKey.j1])
        | succ kj5 =>
          have H := HA.out
          clear HA
          simp only [laws_knownKey.j1] at H
          by_cases c10 : x26_5 = true
          · subst c10
            have H1 : (some false) = some r := by rw [if_pos rfl] at H; exact H
            clear H
            have H := H1
            clear H1
            obtain rfl := Option.some.inj H
            go_wp2
            go_ret
            exact ⟨by first | rfl | (simp [errW_none, errW_some] <;> rfl) | (simp [*, errW_none, errW_some] <;> rfl) | (simp [errW_none, errW_some]; generalize ByteArray.toList _ = l_; cases l_ <;> rfl), by repeat (first | (with_reducible first | exact HB.out | apply below_alloc | apply pw_below_drewN | apply below_drew1) | exact HB.out)⟩
          · replace c10 := Bool.eq_false_iff.mpr c10
            subst c10
            have H1 : (laws_knownKey.l0 kj5 l0 a1 0) = some r := by rw [if_neg (show ¬ (false = true) by decide)] at H; exact H
            clear H
            have H := H1
            clear H1
            have H' := Aside0.mk H
            clear H
            go_wp2
            go_loopg [8] kj5 (fun kq v8 w' => ∃ (x8_3 : Int), v8 = .int .i64 x8_3 ∧ Aside0 (laws_knownKey.l0 kq l0 a1 x8_3 = some r) ∧ Aside0 (kq ≤ kj5) ∧ Aside0 (Below w.heap.size w w'))
            case atStart => exact ⟨(0), (by first | rfl | (simp; done) | (simp [*]; done)), H', ⟨Nat.le_refl _⟩, ⟨by repeat (first | (with_reducible first | exact HB.out | apply below_alloc | apply pw_below_drewN | apply below_drew1) | exact HB.out)⟩⟩
            case round =>
              clear H'
              try clear c1
              try clear p2
              try clear c5
              try clear c7
              try clear c7b0
              try clear c7b1
              try clear c10
              try clear p2
              obtain ⟨x8_3, rfl, HA, HK3, HB⟩ := hrel
              cases gk with
              | zero => exact absurd HA.out (by simp [laws_knownKey.l0])
              | succ k3 =>
                have H := HA.out
                clear HA
                simp only [laws_knownKey.l0] at H
                by_cases c11 : x8_3 < (l0.length : Int)
                · rw [if_pos c11] at H
                  have c11b0 : decide (x8_3 < (l0.length : Int)) = true := decide_eq_true c11
                  clear c11
                  by_cases c12 : 0 ≤ x8_3
                  · rw [if_pos c12] at H
                    have c12b0 : decide (0 ≤ x8_3) = true := decide_eq_true c12
                    clear c12
                    by_cases c13 : ((rd_T37 l0 x8_3).f0).toList = a1.toList
                    · rw [if_pos c13] at H
                      have c13b0 : (((rd_T37 l0 x8_3).f0).toList == a1.toList) = true := beq_iff_eq.mpr c13
                      have c13b1 : (((rd_T37 l0 x8_3).f0).toList != a1.toList) = false := bne_eq_false_iff_eq.mpr c13
                      clear c13
                      have H' := Aside0.mk H
                      clear H
                      have p134 : 0 ≤ (x8_3 : Int) := of_decide_eq_true (by first | (with_reducible assumption) | assumption)
                      have q134 : x8_3 < (l0.length : Int) := of_decide_eq_true (by first | (with_reducible assumption) | assumption)
                      obtain ⟨ad134, e134, hx134_0, hx134_1⟩ := at_T37 HR0.out x8_3 p134 q134
                      cases e134
                      replace hx134_0 := (HB.out.cell (World.block_lt_of_cell? w _ hx134_0)).trans hx134_0
                      replace hx134_1 := (HB.out.cell (World.block_lt_of_cell? w _ hx134_1)).trans hx134_1
                      replace p134 := eq_true p134
                      replace q134 := eq_true q134
                      go_wp2
                      go_roundg k3
                      case measure => have := HJ3.out; have := HJ5.out; have := HK3.out; omega
                      case rel => exact ⟨(wrap64 (x8_3 + 1)), (by first | rfl | (simp; done) | (simp [*]; done)), H', ⟨by have := HJ3.out; have := HJ5.out; have := HK3.out; omega⟩, ⟨by repeat (first | (with_reducible first | exact HB.out | apply below_alloc | apply pw_below_drewN | apply below_drew1) | exact HB.out)⟩⟩
                    · rw [if_neg c13] at H
                      have c13b0 : (((rd_T37 l0 x8_3).f0).toList == a1.toList) = false := beq_eq_false_iff_ne.mpr c13
                      have c13b1 : (((rd_T37 l0 x8_3).f0).toList != a1.toList) = true := bne_iff_ne.mpr c13
                      replace H := Option.bind_eq_some_iff.mp H
                      obtain ⟨t136, A140, H⟩ := H
                      replace H : ((laws_lower.f k3 a1).bind fun t137 => (if t136.toList = t137.toList then (some false) else (laws_knownKey.l0 k3 l0 a1 (wrap64 (x8_3 + 1))))) = some r := H
                      have A14 := Aside0.mk A140
                      clear A140
                      replace H := Option.bind_eq_some_iff.mp H
                      obtain ⟨t137, A150, H⟩ := H
                      replace H : (if t136.toList = t137.toList then (some false) else (laws_knownKey.l0 k3 l0 a1 (wrap64 (x8_3 + 1)))) = some r := H
                      have A15 := Aside0.mk A150
                      clear A150
                      by_cases c16 : t136.toList = t137.toList
                      · rw [if_pos c16] at H
                        have c16b0 : (t136.toList == t137.toList) = true := beq_iff_eq.mpr c16
                        have c16b1 : (t136.toList != t137.toList) = false := bne_eq_false_iff_eq.mpr c16
                        clear c16
                        obtain rfl := Option.some.inj H
                        have p134 : 0 ≤ (x8_3 : Int) := of_decide_eq_true (by first | (with_reducible assumption) | assumption)
                        have q134 : x8_3 < (l0.length : Int) := of_decide_eq_true (by first | (with_reducible assumption) | assumption)
                        obtain ⟨ad134, e134, hx134_0, hx134_1⟩ := at_T37 HR0.out x8_3 p134 q134
                        cases e134
                        replace hx134_0 := (HB.out.cell (World.block_lt_of_cell? w _ hx134_0)).trans hx134_0
                        replace hx134_1 := (HB.out.cell (World.block_lt_of_cell? w _ hx134_1)).trans hx134_1
                        replace p134 := eq_true p134
                        replace q134 := eq_true q134
                        have p135 : 0 ≤ (x8_3 : Int) := of_decide_eq_true (by first | (with_reducible assumption) | assumption)
                        have q135 : x8_3 < (l0.length : Int) := of_decide_eq_true (by first | (with_reducible assumption) | assumption)
                        obtain ⟨ad135, e135, hx135_0, hx135_1⟩ := at_T37 HR0.out x8_3 p135 q135
                        obtain rfl : ad134 = ad135 := (by injection e135)
                        replace hx135_0 := (HB.out.cell (World.block_lt_of_cell? w _ hx135_0)).trans hx135_0
                        replace hx135_1 := (HB.out.cell (World.block_lt_of_cell? w _ hx135_1)).trans hx135_1
                        replace p135 := eq_true p135
                        replace q135 := eq_true q135
                        go_wp2_with (first | (go_at_call 8; (with_reducible refine (laws_lower.calls k3 ((rd_T37 l0 x8_3).f0) t136 _ A14.out).mono ?_); rintro e w17 ⟨rfl, hb⟩; have n0_ := Aside0.mk (below_step (by repeat (first | (with_reducible first | exact HB.out | apply below_alloc | apply pw_below_drewN | apply below_drew1) | exact HB.out)) hb); clear HB; have HB := n0_; clear n0_; (try clear hb); (try clear hb2); (try clear hk); (try clear hi)) | (go_at_call 8; (with_reducible refine (laws_lower.calls k3 a1 t137 _ A15.out).mono ?_); rintro e w18 ⟨rfl, hb⟩; have n0_ := Aside0.mk (below_step (by repeat (first | (with_reducible first | exact HB.out | apply below_alloc | apply pw_below_drewN | apply below_drew1) | exact HB.out)) hb); clear HB; have HB := n0_; clear n0_; (try clear hb); (try clear hb2); (try clear hk); (try clear hi)))
                        go_ret
                        exact ⟨by first | rfl | (simp [errW_none, errW_some] <;> rfl) | (simp [*, errW_none, errW_some] <;> rfl) | (simp [errW_none, errW_some]; generalize ByteArray.toList _ = l_; cases l_ <;> rfl), by repeat (first | (with_reducible first | exact HB.out | apply below_alloc | apply pw_below_drewN | apply below_drew1) | exact HB.out)⟩
                      · rw [if_neg c16] at H
                        have c16b0 : (t136.toList == t137.toList) = false := beq_eq_false_iff_ne.mpr c16
                        have c16b1 : (t136.toList != t137.toList) = true := bne_iff_ne.mpr c16
                        have H' := Aside0.mk H
                        clear H
                        have p134 : 0 ≤ (x8_3 : Int) := of_decide_eq_true (by first | (with_reducible assumption) | assumption)
                        have q134 : x8_3 < (l0.length : Int) := of_decide_eq_true (by first | (with_reducible assumption) | assumption)
                        obtain ⟨ad134, e134, hx134_0, hx134_1⟩ := at_T37 HR0.out x8_3 p134 q134
                        cases e134
                        replace hx134_0 := (HB.out.cell (World.block_lt_of_cell? w _ hx134_0)).trans hx134_0
                        replace hx134_1 := (HB.out.cell (World.block_lt_of_cell? w _ hx134_1)).trans hx134_1
                        replace p134 := eq_true p134
                        replace q134 := eq_true q134
                        have p135 : 0 ≤ (x8_3 : Int) := of_decide_eq_true (by first | (with_reducible assumption) | assumption)
                        have q135 : x8_3 < (l0.length : Int) := of_decide_eq_true (by first | (with_reducible assumption) | assumption)
                        obtain ⟨ad135, e135, hx135_0, hx135_1⟩ := at_T37 HR0.out x8_3 p135 q135
                        obtain rfl : ad134 = ad135 := (by injection e135)
                        replace hx135_0 := (HB.out.cell (World.block_lt_of_cell? w _ hx135_0)).trans hx135_0
                        replace hx135_1 := (HB.out.cell (World.block_lt_of_cell? w _ hx135_1)).trans hx135_1
                        replace p135 := eq_true p135
                        replace q135 := eq_true q135
                        go_wp2_with (first | (go_at_call 8; (with_reducible refine (laws_lower.calls k3 ((rd_T37 l0 x8_3).f0) t136 _ A14.out).mono ?_); rintro e w19 ⟨rfl, hb⟩; have n0_ := Aside0.mk (below_step (by repeat (first | (with_reducible first | exact HB.out | apply below_alloc | apply pw_below_drewN | apply below_drew1) | exact HB.out)) hb); clear HB; have HB := n0_; clear n0_; (try clear hb); (try clear hb2); (try clear hk); (try clear hi)) | (go_at_call 8; (with_reducible refine (laws_lower.calls k3 a1 t137 _ A15.out).mono ?_); rintro e w20 ⟨rfl, hb⟩; have n0_ := Aside0.mk (below_step (by repeat (first | (with_reducible first | exact HB.out | apply below_alloc | apply pw_below_drewN | apply below_drew1) | exact HB.out)) hb); clear HB; have HB := n0_; clear n0_; (try clear hb); (try clear hb2); (try clear hk); (try clear hi)))
                        go_roundg k3
                        case measure => have := HJ3.out; have := HJ5.out; have := HK3.out; omega
                        case rel => exact ⟨(wrap64 (x8_3 + 1)), (by first | rfl | (simp; done) | (simp [*]; done)), H', ⟨by have := HJ3.out; have := HJ5.out; have := HK3.out; omega⟩, ⟨by repeat (first | (with_reducible first | exact HB.out | apply below_alloc | apply pw_below_drewN | apply below_drew1) | exact HB.out)⟩⟩
                  · rw [if_neg c12] at H
                    exact absurd H (by simp)
                · rw [if_neg c11] at H
                  have c11b0 : decide (x8_3 < (l0.length : Int)) = false := decide_eq_false c11
                  clear c11
                  replace H := Option.bind_eq_some_iff.mp H
                  obtain ⟨t133, A210, H⟩ := H
                  replace H : (if t133 = true then (some (decide ((a1.size : Int) ≤ 40))) else (some false)) = some r := H
                  have A21 := Aside0.mk A210
                  clear A210
                  by_cases c22 : t133 = true
                  · subst c22
                    have H1 : (some (decide ((a1.size : Int) ≤ 40))) = some r := by rw [if_pos rfl] at H; exact H
                    clear H
                    have H := H1
                    clear H1
                    obtain rfl := Option.some.inj H
                    go_wp2_with (first | ((with_reducible refine gate_callee (f := 20) rfl ?_); refine goesL_ (some 52) rfl rfl Try.func20 (by kernel_rfl) rfl #[.string a1] rfl (by (try simp only [List.map_toArray, List.map_cons, List.map_nil]); first | done | rfl | (simp only [List.length_drop, List.length_take]; rfl)) ?_; (with_reducible refine (spec_Token.calls k3 a1 true _ A21.out).mono ?_); rintro e w' ⟨rfl, ⟨nd, rfl⟩⟩; refine ⟨_, rfl, ?_⟩))
                    go_ret
                    exact ⟨by first | rfl | (simp [errW_none, errW_some] <;> rfl) | (simp [*, errW_none, errW_some] <;> rfl) | (simp [errW_none, errW_some]; generalize ByteArray.toList _ = l_; cases l_ <;> rfl), by repeat (first | (with_reducible first | exact HB.out | apply below_alloc | apply pw_below_drewN | apply below_drew1) | exact HB.out)⟩
                  · replace c22 := Bool.eq_false_iff.mpr c22
                    subst c22
                    have H1 : (some false) = some r := by rw [if_neg (show ¬ (false = true) by decide)] at H; exact H
                    clear H
                    have H := H1
                    clear H1
                    obtain rfl := Option.some.inj H
                    go_wp2_with (first | ((with_reducible refine gate_callee (f := 20) rfl ?_); refine goesL_ (some 52) rfl rfl Try.func20 (by kernel_rfl) rfl #[.string a1] rfl (by (try simp only [List.map_toArray, List.map_cons, List.map_nil]); first | done | rfl | (simp only [List.length_drop, List.length_take]; rfl)) ?_; (with_reducible refine (spec_Token.calls k3 a1 false _ A21.out).mono ?_); rintro e w' ⟨rfl, ⟨nd, rfl⟩⟩; refine ⟨_, rfl, ?_⟩))
                    go_ret
                    exact ⟨by first | rfl | (simp [errW_none, errW_some] <;> rfl) | (simp [*, errW_none, errW_some] <;> rfl) | (simp [errW_none, errW_some]; generalize ByteArray.toList _ = l_; cases l_ <;> rfl), by repeat (first | (with_reducible first | exact HB.out | apply below_alloc | apply pw_below_drewN | apply below_drew1) | exact HB.out)⟩

/-! ### server_zzIndexBytes: function 29 -/
def server_zzIndexBytes.f (l0 l1 : List Int) : Option Int := none
theorem server_zzIndexBytes.calls (A0 : Option Addr) (c0 : Nat) (l0 : List Int) (A1 : Option Addr) (c1 : Nat) (l1 : List Int) (r : Int) (w : World) (hr0 : Kd.C (Kd.int .u8) w A0 l0.length l0) (hc0 : l0.length ≤ c0) (hr1 : Kd.C (Kd.int .u8) w A1 l1.length l1) (hc1 : l1.length ≤ c1) (h : server_zzIndexBytes.f l0 l1 = some r) :
    Calls Try.prog 29 #[.slice A0 l0.length c0, .slice A1 l1.length c1] w fun e w' => e = .returned (.int .i64 r) ∧ Drawn0 w w' := by
  cases h


-- NOT PRINTED: function 30 (server_stringToBytes)

-- NOT PRINTED: function 28 (server_getHeaderKeyIndex)

-- NOT PRINTED: function 27 (server_sliceHeader)

-- NOT PRINTED: function 25 (server_getHeader)

-- NOT PRINTED: function 21 (server_GetHeader)

/-! ### impl_HeaderGet: function 11 -/
section
open _root_.Go.Proofs.Ytmfblbjklmgncaa.HeadW
def impl_HeaderGet.f (a0 a1 : ByteArray) : Option (List Int × Bool) := if a0.size ≤ 536870911 then impl_HeaderGetR.f (bytesOf a0) a1 else none
theorem impl_HeaderGet.calls (a0 a1 : ByteArray) (r1 : List Int) (r2 : Bool) (w : World) (h : impl_HeaderGet.f a0 a1 = some (r1, r2)) {g c : Nat} (hg : g = w.heap.size := by first | rfl | (with_unfolding_all rfl)) (hc : a0.size ≤ c := by first | exact grownCap_ge _ _ _ _ | (with_unfolding_all exact grownCap_ge _ _ _ _)) :
    Calls Try.prog 11 #[.slice (some ⟨g, 0, none⟩) a0.size c, .string a1] (Lib.bytesWorld w 5 a0) fun e w' => ∃ v0_ : Value, e = .returned (.tuple #[v0_, .bool r2]) ∧ Kd.R (Kd.int .u8) 5 w' w.heap.size (fun _ => True) v0_ r1 ∧ Below w.heap.size w w' := by
  subst hg
  unfold impl_HeaderGet.f at h
  split at h
  · rename_i hs
    have hb := bytes_below (Below.refl w.heap.size w) (Nat.le_refl _) 5 a0
    have hk := impl_HeaderGetR.calls (some ⟨w.heap.size, 0, none⟩) c (bytesOf a0) a1 r1 r2 (Lib.bytesWorld w 5 a0) (bytes_C w a0 (by omega)) (by rw [bytesOf_length]; exact hc) h
    rw [bytesOf_length] at hk
    refine hk.mono ?_
    rintro e w' ⟨v, rfl, ho, hb2⟩
    exact ⟨v, rfl, Kd.R_lower ho hb.size, below_step hb hb2⟩
  · cases h
end


/-! ### laws_awakeHeader: function 9 -/
def laws_awakeHeader.f (k : Nat)  : Option (Bool) := (spec_Header.f k (([(⟨(⟨#[73, 100]⟩ : ByteArray), (⟨#[55]⟩ : ByteArray)⟩ : S37)] : List (S37)))).bind fun t141 => ((impl_HeaderGet.f t141 (⟨#[73, 100]⟩ : ByteArray)).bind fun bt142 => (if bt142.2 = true then (some ((strOfNums bt142.1).toList == ([55] : List UInt8))) else (some false)))
theorem laws_awakeHeader.mono : ∀ k, LeO (laws_awakeHeader.f k ) (laws_awakeHeader.f (k + 1) ) := by
  intro  k
  unfold laws_awakeHeader.f
  repeat' first
      | (with_reducible exact spec_Header.mono _ _)
      | (with_reducible exact LeO.refl _)
      | (with_reducible exact LeO.none _)
      | (with_reducible refine LeO.ite ?_ ?_)
      | (with_reducible refine LeO.bind ?_ (fun _ => ?_))
      | exact spec_Header.mono _ _
      | exact LeO.none _
      | refine LeO.ite ?_ ?_
      | refine LeO.bind ?_ (fun _ => ?_)
set_option maxHeartbeats 8000000 in
set_option maxRecDepth 100000 in
theorem laws_awakeHeader.calls (k : Nat)  (r : Bool) (w : World) (h : laws_awakeHeader.f k  = some r) :
    Calls Try.prog 9 #[] w fun e w' => e = .returned (.bool r) ∧ Below w.heap.size w w' := by
  have hu37 := Try.underlying37
  have HB := Aside0.mk (Below.refl w.heap.size w)
  have H : ((spec_Header.f k (([(⟨(⟨#[73, 100]⟩ : ByteArray), (⟨#[55]⟩ : ByteArray)⟩ : S37)] : List (S37)))).bind fun t141 => ((impl_HeaderGet.f t141 (⟨#[73, 100]⟩ : ByteArray)).bind fun bt142 => (if bt142.2 = true then (some ((strOfNums bt142.1).toList == ([55] : List UInt8))) else (some false)))) = some r := h
  clear h
  obtain ⟨y138, hy138⟩ : ∃ y_ : List (S37), y_ = (([(⟨(⟨#[73, 100]⟩ : ByteArray), (⟨#[55]⟩ : ByteArray)⟩ : S37)] : List (S37))) := ⟨_, rfl⟩
  replace H : ((spec_Header.f k y138).bind fun t141 => ((impl_HeaderGet.f t141 (⟨#[73, 100]⟩ : ByteArray)).bind fun bt142 => (if bt142.2 = true then (some ((strOfNums bt142.1).toList == ([55] : List UInt8))) else (some false)))) = some r := by first | (rw [hy138]; with_reducible exact H) | (have H2_ := (Option.bind_some _ _).symm.trans H; rw [hy138]; with_reducible exact H2_) | (have H2_ := (Option.bind_some _ _).symm.trans H; with_reducible exact H2_) | with_reducible exact H | (rw [hy138]; exact H) | exact H
  have Ny138 := Aside0.mk hy138
  clear hy138
  replace H := Option.bind_eq_some_iff.mp H
  obtain ⟨t141, A10, H⟩ := H
  replace H : ((impl_HeaderGet.f t141 (⟨#[73, 100]⟩ : ByteArray)).bind fun bt142 => (if bt142.2 = true then (some ((strOfNums bt142.1).toList == ([55] : List UInt8))) else (some false))) = some r := H
  have A1 := Aside0.mk A10
  clear A10
  replace H := Option.bind_eq_some_iff.mp H
  obtain ⟨⟨t142, t143⟩, A20, H⟩ := H
  replace H : (if t143 = true then (some ((strOfNums t142).toList == ([55] : List UInt8))) else (some false)) = some r := H
  have A2 := Aside0.mk A20
  clear A20
  by_cases c3 : t143 = true
  · subst c3
    have H1 : (some ((strOfNums t142).toList == ([55] : List UInt8))) = some r := by rw [if_pos rfl] at H; exact H
    clear H
    have H := H1
    clear H1
    obtain rfl := Option.some.inj H
    have hkb_ : ∀ (s_ : ByteArray) (W_ : World), (convert 9 27 (.string s_)).run Try.prog W_ = .ok (.slice (some ⟨W_.heap.size, 0, none⟩) s_.size (grownCap W_ s_.size 0 5)) (Lib.bytesWorld W_ 5 s_) := fun s_ W_ => print_bytes 9 27 5 Try.underlying9 Try.underlying27 Try.underlying5 s_ W_
    go_enter Try.func9, Try.ntmps9
    go_wp2_with (first | ((with_reducible refine gate_dst (N := 5) rfl ?_); refine Kd.R_lit k37 _ 37 ?hg (N := 5) ?hd (xs := ([(⟨(⟨#[73, 100]⟩ : ByteArray), (⟨#[55]⟩ : ByteArray)⟩ : S37)] : List (S37))) (inner := [.string (⟨#[73, 100]⟩ : ByteArray), .string (⟨#[55]⟩ : ByteArray)]) (ok := fun _ => True) (okp := fun _ => True) ?hr ?hp (fun _ hk => hk) trivial (Below.refl _ _) (Nat.le_refl _) (by simp) ?_; (case hd => rfl); (case hg => rfl); (case hr => first | (go_simp; done) | (go_simp; rfl)); (case hp => exact (Reps.c2 (show Kd.M k37 _ _ _ (⟨(⟨#[73, 100]⟩ : ByteArray), (⟨#[55]⟩ : ByteArray)⟩ : S37) [.string (⟨#[73, 100]⟩ : ByteArray), .string (⟨#[55]⟩ : ByteArray)] from (k37_mkM _ _ _ (⟨(⟨#[73, 100]⟩ : ByteArray), (⟨#[55]⟩ : ByteArray)⟩ : S37) )) (Reps.none _ _))); intro v139 w4 ho5 hb hg_ hnew_; clear hg_ hnew_; (first | rw [← Ny138.out] at ho5 | (simp only [Int.reduceToNat] at ho5; rw [← Ny138.out] at ho5)); have n0_ := Aside0.mk (Kd.R_lower ho5 (below_size (by repeat (first | (with_reducible first | exact HB.out | apply below_alloc | apply pw_below_drewN | apply below_drew1) | exact HB.out)))); have n1_ := Aside0.mk (below_step (by repeat (first | (with_reducible first | exact HB.out | apply below_alloc | apply pw_below_drewN | apply below_drew1) | exact HB.out)) hb); clear HB; have HO140 := n0_; have HB := n1_; clear n0_ n1_; clear hb ho5; obtain ⟨Ao6, co6, eo6⟩ := Kd.R_slice HO140.out; subst eo6) | ((with_reducible refine gate_callee (f := 10) rfl ?_); refine goesL_ (some 6) rfl rfl Try.func10 (by kernel_rfl) rfl #[.slice Ao6 y138.length co6] rfl (by (try simp only [List.map_toArray, List.map_cons, List.map_nil]); first | done | rfl | (simp only [List.length_drop, List.length_take]; rfl)) ?_; (with_reducible refine (spec_Header.calls k _ _ y138 t141 _ ?side1 ?side2 A1.out).mono ?_); (case side1 => repeat (first | exact (Kd.R_reads' HO140.out).2.2 | (with_reducible refine Kd.C_alloc ?_ _) | (with_reducible refine Kd.C_drewN ?_ _) | (with_reducible refine Kd.C_drew ?_))); (case side2 => exact (Kd.R_reads' HO140.out).2.1); rintro e w' ⟨rfl, ⟨nd, rfl⟩⟩; refine ⟨_, rfl, ?_⟩) | ((with_reducible refine gate_callee (f := 11) rfl ?_); refine goesL_ (some 8) rfl rfl Try.func11 (by kernel_rfl) rfl #[.slice (some ⟨_, 0, none⟩) (t141).size _, .string (⟨#[73, 100]⟩ : ByteArray)] rfl (by (try simp only [List.map_toArray, List.map_cons, List.map_nil]); first | done | rfl | (simp only [List.length_drop, List.length_take]; rfl)) ?_; (with_reducible refine (impl_HeaderGet.calls t141 (⟨#[73, 100]⟩ : ByteArray) t142 true _ A2.out).mono ?_); rintro e w7 ⟨v144, rfl, ho0, hb⟩; refine ⟨_, rfl, ?_⟩; have n0_ := Aside0.mk (Kd.R_below (by (with_reducible repeat (first | apply Kd.R_alloc | apply Kd.R_drewN | apply Kd.R_drew)); exact HO140.out) hb); have n1_ := Aside0.mk (Kd.R_lower ho0 (below_size (by repeat (first | (with_reducible first | exact HB.out | apply below_alloc | apply pw_below_drewN | apply below_drew1) | exact HB.out)))); have n2_ := Aside0.mk (below_step (by repeat (first | (with_reducible first | exact HB.out | apply below_alloc | apply pw_below_drewN | apply below_drew1) | exact HB.out)) hb); clear HO140; clear HB; have HO140 := n0_; have HO145 := n1_; have HB := n2_; clear n0_ n1_ n2_; (try clear hb); (try clear hb2); (try clear hk); (try clear hi); (try clear ho0); have hcv8 := own_string (P := Try.prog) Try.underlying27 Try.underlying5 Try.underlying9 (Kd.own_of_R HO145.out)))
    go_ret
    exact ⟨by first | rfl | (simp [errW_none, errW_some] <;> rfl) | (simp [*, errW_none, errW_some] <;> rfl) | (simp [errW_none, errW_some]; generalize ByteArray.toList _ = l_; cases l_ <;> rfl), by repeat (first | (with_reducible first | exact HB.out | apply below_alloc | apply pw_below_drewN | apply below_drew1) | exact HB.out)⟩
  · replace c3 := Bool.eq_false_iff.mpr c3
    subst c3
    have H1 : (some false) = some r := by rw [if_neg (show ¬ (false = true) by decide)] at H; exact H
    clear H
    have H := H1
    clear H1
    obtain rfl := Option.some.inj H
    have hkb_ : ∀ (s_ : ByteArray) (W_ : World), (convert 9 27 (.string s_)).run Try.prog W_ = .ok (.slice (some ⟨W_.heap.size, 0, none⟩) s_.size (grownCap W_ s_.size 0 5)) (Lib.bytesWorld W_ 5 s_) := fun s_ W_ => print_bytes 9 27 5 Try.underlying9 Try.underlying27 Try.underlying5 s_ W_
    go_enter Try.func9, Try.ntmps9
    go_wp2_with (first | ((with_reducible refine gate_dst (N := 5) rfl ?_); refine Kd.R_lit k37 _ 37 ?hg (N := 5) ?hd (xs := ([(⟨(⟨#[73, 100]⟩ : ByteArray), (⟨#[55]⟩ : ByteArray)⟩ : S37)] : List (S37))) (inner := [.string (⟨#[73, 100]⟩ : ByteArray), .string (⟨#[55]⟩ : ByteArray)]) (ok := fun _ => True) (okp := fun _ => True) ?hr ?hp (fun _ hk => hk) trivial (Below.refl _ _) (Nat.le_refl _) (by simp) ?_; (case hd => rfl); (case hg => rfl); (case hr => first | (go_simp; done) | (go_simp; rfl)); (case hp => exact (Reps.c2 (show Kd.M k37 _ _ _ (⟨(⟨#[73, 100]⟩ : ByteArray), (⟨#[55]⟩ : ByteArray)⟩ : S37) [.string (⟨#[73, 100]⟩ : ByteArray), .string (⟨#[55]⟩ : ByteArray)] from (k37_mkM _ _ _ (⟨(⟨#[73, 100]⟩ : ByteArray), (⟨#[55]⟩ : ByteArray)⟩ : S37) )) (Reps.none _ _))); intro v139 w9 ho10 hb hg_ hnew_; clear hg_ hnew_; (first | rw [← Ny138.out] at ho10 | (simp only [Int.reduceToNat] at ho10; rw [← Ny138.out] at ho10)); have n0_ := Aside0.mk (Kd.R_lower ho10 (below_size (by repeat (first | (with_reducible first | exact HB.out | apply below_alloc | apply pw_below_drewN | apply below_drew1) | exact HB.out)))); have n1_ := Aside0.mk (below_step (by repeat (first | (with_reducible first | exact HB.out | apply below_alloc | apply pw_below_drewN | apply below_drew1) | exact HB.out)) hb); clear HB; have HO140 := n0_; have HB := n1_; clear n0_ n1_; clear hb ho10; obtain ⟨Ao11, co11, eo11⟩ := Kd.R_slice HO140.out; subst eo11) | ((with_reducible refine gate_callee (f := 10) rfl ?_); refine goesL_ (some 6) rfl rfl Try.func10 (by kernel_rfl) rfl #[.slice Ao11 y138.length co11] rfl (by (try simp only [List.map_toArray, List.map_cons, List.map_nil]); first | done | rfl | (simp only [List.length_drop, List.length_take]; rfl)) ?_; (with_reducible refine (spec_Header.calls k _ _ y138 t141 _ ?side1 ?side2 A1.out).mono ?_); (case side1 => repeat (first | exact (Kd.R_reads' HO140.out).2.2 | (with_reducible refine Kd.C_alloc ?_ _) | (with_reducible refine Kd.C_drewN ?_ _) | (with_reducible refine Kd.C_drew ?_))); (case side2 => exact (Kd.R_reads' HO140.out).2.1); rintro e w' ⟨rfl, ⟨nd, rfl⟩⟩; refine ⟨_, rfl, ?_⟩) | ((with_reducible refine gate_callee (f := 11) rfl ?_); refine goesL_ (some 8) rfl rfl Try.func11 (by kernel_rfl) rfl #[.slice (some ⟨_, 0, none⟩) (t141).size _, .string (⟨#[73, 100]⟩ : ByteArray)] rfl (by (try simp only [List.map_toArray, List.map_cons, List.map_nil]); first | done | rfl | (simp only [List.length_drop, List.length_take]; rfl)) ?_; (with_reducible refine (impl_HeaderGet.calls t141 (⟨#[73, 100]⟩ : ByteArray) t142 false _ A2.out).mono ?_); rintro e w12 ⟨v144, rfl, ho0, hb⟩; refine ⟨_, rfl, ?_⟩; have n0_ := Aside0.mk (Kd.R_below (by (with_reducible repeat (first | apply Kd.R_alloc | apply Kd.R_drewN | apply Kd.R_drew)); exact HO140.out) hb); have n1_ := Aside0.mk (Kd.R_lower ho0 (below_size (by repeat (first | (with_reducible first | exact HB.out | apply below_alloc | apply pw_below_drewN | apply below_drew1) | exact HB.out)))); have n2_ := Aside0.mk (below_step (by repeat (first | (with_reducible first | exact HB.out | apply below_alloc | apply pw_below_drewN | apply below_drew1) | exact HB.out)) hb); clear HO140; clear HB; have HO140 := n0_; have HO145 := n1_; have HB := n2_; clear n0_ n1_ n2_; (try clear hb); (try clear hb2); (try clear hk); (try clear hi); (try clear ho0)))
    go_ret
    exact ⟨by first | rfl | (simp [errW_none, errW_some] <;> rfl) | (simp [*, errW_none, errW_some] <;> rfl) | (simp [errW_none, errW_some]; generalize ByteArray.toList _ = l_; cases l_ <;> rfl), by repeat (first | (with_reducible first | exact HB.out | apply below_alloc | apply pw_below_drewN | apply below_drew1) | exact HB.out)⟩

-- NOT PRINTED: function 26 (server_removeHeaderIfPresent)

-- NOT PRINTED: function 22 (server_RemoveHeader)

/-! ### impl_copied: function 23 -/
def impl_copied.f (l0 : List Int) : Option (List Int) := (some (([] : List Int) : List Int)).bind fun y146 => (if y146.length + l0.length < 140737488355328 then (some (y146 ++ l0)) else (none))
set_option maxHeartbeats 8000000 in
set_option maxRecDepth 100000 in
theorem impl_copied.calls (A0 : Option Addr) (c0 : Nat) (l0 : List Int) (r : List Int) (w : World) (hr0 : Kd.C (Kd.int .u8) w A0 l0.length l0) (hc0 : l0.length ≤ c0) (h : impl_copied.f l0 = some r) :
    Calls Try.prog 23 #[.slice A0 l0.length c0] w fun e w' => ∃ v0_ : Value, e = .returned (v0_) ∧ Kd.R (Kd.int .u8) 5 w' w.heap.size (fun _ => True) v0_ r ∧ Below w.heap.size w w' := by
  have HR0 := Aside0.mk hr0
  have HC0 := Aside0.mk hc0
  clear hr0 hc0
  have HB := Aside0.mk (Below.refl w.heap.size w)
  have H : ((some (([] : List Int) : List Int)).bind fun y146 => (if y146.length + l0.length < 140737488355328 then (some (y146 ++ l0)) else (none))) = some r := h
  clear h
  obtain ⟨y146, hy146⟩ : ∃ y_ : List Int, y_ = (([] : List Int)) := ⟨_, rfl⟩
  replace H : (if y146.length + l0.length < 140737488355328 then (some (y146 ++ l0)) else (none)) = some r := by first | (rw [hy146]; with_reducible exact H) | (have H2_ := (Option.bind_some _ _).symm.trans H; rw [hy146]; with_reducible exact H2_) | (have H2_ := (Option.bind_some _ _).symm.trans H; with_reducible exact H2_) | with_reducible exact H | (rw [hy146]; exact H) | exact H
  have Ny146 := Aside0.mk hy146
  clear hy146
  by_cases c2 : y146.length + l0.length < 140737488355328
  · rw [if_pos c2] at H
    have LMc2 := Aside0.mk c2
    clear c2
    obtain ⟨y149, hy149⟩ : ∃ y_ : List Int, y_ = (y146 ++ l0) := ⟨_, rfl⟩
    replace H : (some y149) = some r := by first | (rw [hy149]; with_reducible exact H) | (have H2_ := (Option.bind_some _ _).symm.trans H; rw [hy149]; with_reducible exact H2_) | (have H2_ := (Option.bind_some _ _).symm.trans H; with_reducible exact H2_) | with_reducible exact H | (rw [hy149]; exact H) | exact H
    have Ny149 := Aside0.mk hy149
    clear hy149
    obtain rfl := Option.some.inj H
    go_enter Try.func23, Try.ntmps23
    go_wp2_with (first | ((with_reducible refine gate_dst (N := 3) rfl ?_); refine Kd.R_lit (Kd.int .u8) _ 5 ?hg (N := 3) ?hd (xs := ([] : List Int)) (inner := []) (ok := fun _ => True) (okp := fun _ => True) ?hr ?hp (fun _ hk => hk) trivial (Below.refl _ _) (Nat.le_refl _) (by simp) ?_; (case hd => rfl); (case hg => rfl); (case hr => first | (go_simp; done) | (go_simp; rfl)); (case hp => exact (Reps.none _ _)); intro v147 w3 ho4 hb hg_ hnew_; clear hg_ hnew_; (first | rw [← Ny146.out] at ho4 | (simp only [Int.reduceToNat] at ho4; rw [← Ny146.out] at ho4)); have n0_ := Aside0.mk (Kd.R_lower ho4 (below_size (by repeat (first | (with_reducible first | exact HB.out | apply below_alloc | apply pw_below_drewN | apply below_drew1) | exact HB.out)))); have n1_ := Aside0.mk (below_step (by repeat (first | (with_reducible first | exact HB.out | apply below_alloc | apply pw_below_drewN | apply below_drew1) | exact HB.out)) hb); clear HB; have HO148 := n0_; have HB := n1_; clear n0_ n1_; clear hb ho4) | ((with_reducible refine gate_builtin (b := .append) (xs := #[.tmp 3, .tmp 4]) rfl ?_); at_builtin; refine Kd.R_append_rows (Kd.int .u8) (w0 := w) w.heap.size rfl (.tmp 3) (.tmp 4) 27 5 (.int .u8 0) 1 rfl Try.underlying27 info5 rfl (by decide) (by omega) v147 y146 l0 _ _ _ (fun _ => True) (fun _ => False) rfl rfl ?aO ?aR (fun _ _ h => h) (fun _ h => h.elim) ?aF ?aB ?aS ?aL ?_; (case aR => repeat (first | exact (Kd.C_below HR0.out HB.out) | (with_reducible refine Kd.C_alloc ?_ _) | (with_reducible refine Kd.C_drewN ?_ _) | (with_reducible refine Kd.C_drew ?_))); (case aB => exact (by repeat (first | (with_reducible first | exact HB.out | apply below_alloc | apply pw_below_drewN | apply below_drew1) | exact HB.out))); (case aF => exact (fun _ _ => trivial)); (case aO => exact (by (with_reducible repeat (first | apply Kd.R_alloc | apply Kd.R_drewN | apply Kd.R_drew)); exact HO148.out)); (case aS => exact (below_size (by repeat (first | (with_reducible first | exact HB.out | apply below_alloc | apply pw_below_drewN | apply below_drew1) | exact HB.out)))); (case aL => have := LMc2.out; omega); intro v150 w5 ho hb hg hat; rw [← Ny149.out] at ho; have n0_ := Aside0.mk (hb); have n1_ := Aside0.mk (ho); clear HB; clear HO148; have HB := n0_; have HO151 := n1_; clear n0_ n1_; clear ho hb hg hat))
    go_ret
    exact ⟨_, by first | rfl | (simp [errW_none, errW_some] <;> rfl) | (simp [*, errW_none, errW_some] <;> rfl), by (with_reducible repeat (first | apply Kd.R_alloc | apply Kd.R_drewN | apply Kd.R_drew)); exact HO151.out, by repeat (first | (with_reducible first | exact HB.out | apply below_alloc | apply pw_below_drewN | apply below_drew1) | exact HB.out)⟩
  · rw [if_neg c2] at H
    exact absurd H (by simp)

/-! ### impl_HeaderRemove: function 12 -/
section
open _root_.Go.Proofs.Ytmfblbjklmgncaa.HeadW
theorem impl_HeaderRemoveR.calls (A0 : Option Addr) (c0 : Nat) (l0 : List Int) (a1 : ByteArray) (r : List Int) (w : World) (hr0 : Kd.C (Kd.int .u8) w A0 l0.length l0) (hc0 : l0.length ≤ c0) (h : impl_HeaderRemoveR.f l0 a1 = some r) :
    Calls Try.prog 12 #[.slice A0 l0.length c0, .string a1] w fun e w' => ∃ v0_ : Value, e = .returned v0_ ∧ Kd.R (Kd.int .u8) 5 w' w.heap.size (fun _ => True) v0_ r ∧ Below w.heap.size w w' := by
  have hl : l0.length ≤ 2147483647 := by
    unfold impl_HeaderRemoveR.f at h
    split at h
    · rename_i hc; exact hc.2.2.2
    · cases h
  have HCP := Aside0.mk (impl_copied.calls A0 c0 l0 l0 w hr0 hc0 (by
    show (if ([] : List Int).length + l0.length < 140737488355328 then some ([] ++ l0) else none) = some l0
    rw [if_pos (by simp only [List.length_nil]; omega), List.nil_append]))
  have HD := Aside0.mk (fun (v : Value) (W : World) (hN : w.heap.size ≤ W.heap.size) (hR : ownB W w.heap.size v l0) => door.walk a1 l0 r h v W w.heap.size hN hR)
  clear hr0 hc0 h hl
  go_enter Try.func12, Try.ntmps12
  go_wp2_with fail
  refine HCP.out.mono ?_
  rintro e w2 ⟨v2, rfl, ho, hb⟩
  have HB := Aside0.mk hb
  have HO := Aside0.mk (Kd.own_of_R ho)
  clear hb ho
  go_wp2_with fail
  refine (HD.out v2 w2 HB.out.size HO.out).mono ?_
  rintro e w3 ⟨v3, rfl, hb3, ho3⟩
  have HB3 := Aside0.mk (HB.out.trans hb3)
  have HO3 := Aside0.mk ho3
  clear hb3 ho3
  go_wp2_with fail
  go_ret
  exact ⟨_, rfl, Kd.R_of_own HO3.out (fun _ _ => trivial), HB3.out⟩
def impl_HeaderRemove.f (a0 a1 : ByteArray) : Option (List Int) := if a0.size ≤ 536870911 then impl_HeaderRemoveR.f (bytesOf a0) a1 else none
theorem impl_HeaderRemove.calls (a0 a1 : ByteArray) (r : List Int) (w : World) (h : impl_HeaderRemove.f a0 a1 = some r) {g c : Nat} (hg : g = w.heap.size := by first | rfl | (with_unfolding_all rfl)) (hc : a0.size ≤ c := by first | exact grownCap_ge _ _ _ _ | (with_unfolding_all exact grownCap_ge _ _ _ _)) :
    Calls Try.prog 12 #[.slice (some ⟨g, 0, none⟩) a0.size c, .string a1] (Lib.bytesWorld w 5 a0) fun e w' => ∃ v0_ : Value, e = .returned v0_ ∧ Kd.R (Kd.int .u8) 5 w' w.heap.size (fun _ => True) v0_ r ∧ Below w.heap.size w w' := by
  subst hg
  unfold impl_HeaderRemove.f at h
  split at h
  · rename_i hs
    have hb := bytes_below (Below.refl w.heap.size w) (Nat.le_refl _) 5 a0
    have hk := impl_HeaderRemoveR.calls (some ⟨w.heap.size, 0, none⟩) c (bytesOf a0) a1 r (Lib.bytesWorld w 5 a0) (bytes_C w a0 (by omega)) (by rw [bytesOf_length]; exact hc) h
    rw [bytesOf_length] at hk
    refine hk.mono ?_
    rintro e w' ⟨v, rfl, ho, hb2⟩
    exact ⟨v, rfl, Kd.R_lower ho hb.size, below_step hb hb2⟩
  · cases h
end


end Go.Proofs.Ytmfblbjklmgncaa.PFnHeaderOthers
