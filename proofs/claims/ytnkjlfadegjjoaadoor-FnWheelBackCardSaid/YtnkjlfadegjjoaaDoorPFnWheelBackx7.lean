-- Written by hprint.py (this session's program, over the kit's printing program, with this session's own contracts in it). Not trusted: Lean checks it.
import Derived.Test.YtnkjlfadegjjoaaDoorPFnWheelBackx0
namespace Go.Proofs.YtnkjlfadegjjoaaDoor.PFnWheelBack
open Go.RowKit Go.Proofs.YtnkjlfadegjjoaaDoorW.PrintWords Go.Proofs.YtnkjlfadegjjoaaDoorW.PrintLast Go.Proofs.YtnkjlfadegjjoaaDoorW.PrintMore
attribute [local go_sem] max2_int min2_int max_two min_two max_three min_three max_four min_four   -- for this text's walks alone
set_option linter.unusedVariables false
set_option linter.unusedSimpArgs false

-- NOT PRINTED: function 32 (binary_littleEndian_Uint64)

/-! ### binary_Uvarint: function 34 -/
def binary_Uvarint.l0 : Nat → Int → Int → List Int → Int → Int → Option (Int × Int)
  | 0, _, _, _, _, _ => none
  | k + 1, x4, x5, x8, x9, x10 => if x10 < x9 then (if 0 ≤ x10 then (if x10 < (x8.length : Int) then (if x10 = 10 then (some (0, wrap64 (-(wrap64 (x10 + 1))))) else (if (rd x8 x10) < 128 then (if x10 = 9 then (if (rd x8 x10) > 1 then (some (0, wrap64 (-(wrap64 (x10 + 1))))) else (if 0 ≤ x5 then (some (Go.bits .or .u64 x4 (shl .u64 (IntKind.u64.wrap (rd x8 x10)) x5), wrap64 (x10 + 1))) else (none))) else (if 0 ≤ x5 then (some (Go.bits .or .u64 x4 (shl .u64 (IntKind.u64.wrap (rd x8 x10)) x5), wrap64 (x10 + 1))) else (none))) else (if 0 ≤ x5 then (binary_Uvarint.l0 k (Go.bits .or .u64 x4 (shl .u64 (IntKind.u64.wrap (Go.bits .and .u8 (rd x8 x10) 127)) x5)) (IntKind.u64.wrap (x5 + 7)) x8 x9 (wrap64 (x10 + 1))) else (none)))) else (none)) else (none)) else (some (0, 0))
def binary_Uvarint.f (k : Nat) (l0 : List Int) : Option (Int × Int) := binary_Uvarint.l0 k 0 0 l0 (l0.length : Int) 0
theorem binary_Uvarint.mono_l : ∀ k, (∀ y0 y1 y2 y3 y4, LeO (binary_Uvarint.l0 k y0 y1 y2 y3 y4) (binary_Uvarint.l0 (k + 1) y0 y1 y2 y3 y4))
  | 0 => fun _ _ _ _ _ r h => by simp [binary_Uvarint.l0] at h
  | k + 1 => by
    have ih0 := binary_Uvarint.mono_l k
    · intro y0 y1 y2 y3 y4
      unfold binary_Uvarint.l0
      repeat' first
      | (with_reducible exact ih0 _ _ _ _ _)
      | (with_reducible exact LeO.refl _)
      | (with_reducible exact LeO.none _)
      | (with_reducible refine LeO.ite ?_ ?_)
      | (with_reducible refine LeO.bind ?_ (fun _ => ?_))
      | exact ih0 _ _ _ _ _
      | exact LeO.none _
      | refine LeO.ite ?_ ?_
      | refine LeO.bind ?_ (fun _ => ?_)
theorem binary_Uvarint.mono : ∀ a0 k, LeO (binary_Uvarint.f k a0) (binary_Uvarint.f (k + 1) a0) := by
  intro a0 k
  have ih0 := binary_Uvarint.mono_l k
  unfold binary_Uvarint.f
  repeat' first
      | (with_reducible exact ih0 _ _ _ _ _)
      | (with_reducible exact LeO.refl _)
      | (with_reducible exact LeO.none _)
      | (with_reducible refine LeO.ite ?_ ?_)
      | (with_reducible refine LeO.bind ?_ (fun _ => ?_))
      | exact ih0 _ _ _ _ _
      | exact LeO.none _
      | refine LeO.ite ?_ ?_
      | refine LeO.bind ?_ (fun _ => ?_)
set_option maxHeartbeats 8000000 in
set_option maxRecDepth 100000 in
theorem binary_Uvarint.calls (k : Nat) (A0 : Option Addr) (c0 : Nat) (l0 : List Int) (r1 : Int) (r2 : Int) (w : World) (hr0 : Kd.C (Kd.int .u8) w A0 l0.length l0) (hc0 : l0.length ≤ c0) (h : binary_Uvarint.f k l0 = some (r1, r2)) :
    Calls Tryd.prog 34 #[.slice A0 l0.length c0] w fun e w' => e = .returned (.tuple #[.int .u64 r1, .int .i64 r2]) ∧ Drawn0 w w' := by
  have HR0 := Aside0.mk hr0
  have HC0 := Aside0.mk hc0
  clear hr0 hc0
  have H : (binary_Uvarint.l0 k 0 0 l0 (l0.length : Int) 0) = some (r1, r2) := h
  clear h
  have H' := Aside0.mk H
  clear H
  go_enter Tryd.func34, Tryd.ntmps34
  go_wp2
  go_loopg [4, 5, 10] k (fun kq v4 v5 v10 w' => ∃ (x4_1 : Int) (x5_1 : Int) (x10_1 : Int), v4 = .int .u64 x4_1 ∧ v5 = .int .u64 x5_1 ∧ v10 = .int .i64 x10_1 ∧ Aside0 (binary_Uvarint.l0 kq x4_1 x5_1 l0 (l0.length : Int) x10_1 = some (r1, r2)) ∧ Aside0 (kq ≤ k) ∧ Drawn0 w w')
  case atStart => exact ⟨(0), (0), (0), (by first | rfl | (simp; done) | (simp [*]; done)), (by first | rfl | (simp; done) | (simp [*]; done)), (by first | rfl | (simp; done) | (simp [*]; done)), H', ⟨Nat.le_refl _⟩, by repeat (first | exact Drawn0.refl _ | apply Drawn0.step)⟩
  case round =>
    clear H'
    obtain ⟨x4_1, x5_1, x10_1, rfl, rfl, rfl, HA, HK1, ⟨m1, rfl⟩⟩ := hrel
    cases gk with
    | zero => exact absurd HA.out (by simp [binary_Uvarint.l0])
    | succ k1 =>
      have H := HA.out
      clear HA
      simp only [binary_Uvarint.l0] at H
      by_cases c2 : x10_1 < (l0.length : Int)
      · rw [if_pos c2] at H
        have c2b0 : decide (x10_1 < (l0.length : Int)) = true := decide_eq_true c2
        clear c2
        by_cases c3 : 0 ≤ x10_1
        · rw [if_pos c3] at H
          have c3b0 : decide (0 ≤ x10_1) = true := decide_eq_true c3
          clear c3
          by_cases c4 : x10_1 < (l0.length : Int)
          · rw [if_pos c4] at H
            have c4b0 : decide (x10_1 < (l0.length : Int)) = true := decide_eq_true c4
            clear c4
            by_cases c5 : x10_1 = 10
            · rw [if_pos c5] at H
              have c5b0 : (x10_1 == 10) = true := beq_iff_eq.mpr c5
              have c5b1 : (x10_1 != 10) = false := bne_eq_false_iff_eq.mpr c5
              clear c5
              simp only [Option.some.injEq, Prod.mk.injEq] at H
              obtain ⟨rfl, rfl⟩ := H
              have p278 : 0 ≤ (x10_1 : Int) := of_decide_eq_true (by first | (with_reducible assumption) | assumption)
              have q278 : x10_1 < (l0.length : Int) := of_decide_eq_true (by first | (with_reducible assumption) | assumption)
              obtain ⟨ad278, e278, hx278_0⟩ := Kd.at_int HR0.out x10_1 p278 q278
              cases e278
              replace p278 := eq_true p278
              replace q278 := eq_true q278
              go_wp2
              go_ret2
              exact ⟨by first | rfl | (simp; done) | (simp [*]; done), by repeat (first | exact Drawn0.refl _ | apply Drawn0.step)⟩
            · rw [if_neg c5] at H
              have c5b0 : (x10_1 == 10) = false := beq_eq_false_iff_ne.mpr c5
              have c5b1 : (x10_1 != 10) = true := bne_iff_ne.mpr c5
              by_cases c6 : (rd l0 x10_1) < 128
              · rw [if_pos c6] at H
                have c6b0 : decide ((rd l0 x10_1) < 128) = true := decide_eq_true c6
                clear c6
                by_cases c7 : x10_1 = 9
                · rw [if_pos c7] at H
                  have c7b0 : (x10_1 == 9) = true := beq_iff_eq.mpr c7
                  have c7b1 : (x10_1 != 9) = false := bne_eq_false_iff_eq.mpr c7
                  clear c7
                  by_cases c8 : (rd l0 x10_1) > 1
                  · rw [if_pos c8] at H
                    have c8b0 : decide (1 < (rd l0 x10_1)) = true := decide_eq_true c8
                    clear c8
                    simp only [Option.some.injEq, Prod.mk.injEq] at H
                    obtain ⟨rfl, rfl⟩ := H
                    have p278 : 0 ≤ (x10_1 : Int) := of_decide_eq_true (by first | (with_reducible assumption) | assumption)
                    have q278 : x10_1 < (l0.length : Int) := of_decide_eq_true (by first | (with_reducible assumption) | assumption)
                    obtain ⟨ad278, e278, hx278_0⟩ := Kd.at_int HR0.out x10_1 p278 q278
                    cases e278
                    replace p278 := eq_true p278
                    replace q278 := eq_true q278
                    go_wp2
                    go_ret2
                    exact ⟨by first | rfl | (simp; done) | (simp [*]; done), by repeat (first | exact Drawn0.refl _ | apply Drawn0.step)⟩
                  · rw [if_neg c8] at H
                    have c8b0 : decide (1 < (rd l0 x10_1)) = false := decide_eq_false c8
                    clear c8
                    by_cases c9 : 0 ≤ x5_1
                    · rw [if_pos c9] at H
                      have c9b0 := eq_true c9
                      have c9b1 : decide (0 ≤ x5_1) = true := decide_eq_true c9
                      clear c9
                      obtain ⟨ji10, hji10⟩ : ∃ j_ : Int, (shl .u64 (IntKind.u64.wrap (rd l0 x10_1)) x5_1) = j_ := ⟨_, rfl⟩
                      replace H : (some (Go.bits .or .u64 x4_1 (ji10), wrap64 (x10_1 + 1))) = some (r1, r2) := by first | (rw [hji10] at H; exact H) | (simp only [hji10] at H ⊢; exact H)
                      have hji10_ : (IntKind.u64.wrap ((IntKind.u64.wrap (rd l0 x10_1)) * 2 ^ min x5_1.toNat 64)) = ji10 := hji10
                      have hji10z : x5_1 ≤ 64 → (IntKind.u64.wrap ((IntKind.u64.wrap (rd l0 x10_1)) * 2 ^ x5_1.toNat)) = ji10 := shl_small hji10
                      simp only [Option.some.injEq, Prod.mk.injEq] at H
                      obtain ⟨rfl, rfl⟩ := H
                      have p278 : 0 ≤ (x10_1 : Int) := of_decide_eq_true (by first | (with_reducible assumption) | assumption)
                      have q278 : x10_1 < (l0.length : Int) := of_decide_eq_true (by first | (with_reducible assumption) | assumption)
                      obtain ⟨ad278, e278, hx278_0⟩ := Kd.at_int HR0.out x10_1 p278 q278
                      cases e278
                      replace p278 := eq_true p278
                      replace q278 := eq_true q278
                      go_wp2
                      go_ret2
                      exact ⟨by first | rfl | (simp; done) | (simp only [← hji10] <;> (first | rfl | simp)) | (simp [*]; done), by repeat (first | exact Drawn0.refl _ | apply Drawn0.step)⟩
                    · rw [if_neg c9] at H
                      exact absurd H (by simp)
                · rw [if_neg c7] at H
                  have c7b0 : (x10_1 == 9) = false := beq_eq_false_iff_ne.mpr c7
                  have c7b1 : (x10_1 != 9) = true := bne_iff_ne.mpr c7
                  by_cases c11 : 0 ≤ x5_1
                  · rw [if_pos c11] at H
                    have c11b0 := eq_true c11
                    have c11b1 : decide (0 ≤ x5_1) = true := decide_eq_true c11
                    clear c11
                    obtain ⟨ji12, hji12⟩ : ∃ j_ : Int, (shl .u64 (IntKind.u64.wrap (rd l0 x10_1)) x5_1) = j_ := ⟨_, rfl⟩
                    replace H : (some (Go.bits .or .u64 x4_1 (ji12), wrap64 (x10_1 + 1))) = some (r1, r2) := by first | (rw [hji12] at H; exact H) | (simp only [hji12] at H ⊢; exact H)
                    have hji12_ : (IntKind.u64.wrap ((IntKind.u64.wrap (rd l0 x10_1)) * 2 ^ min x5_1.toNat 64)) = ji12 := hji12
                    have hji12z : x5_1 ≤ 64 → (IntKind.u64.wrap ((IntKind.u64.wrap (rd l0 x10_1)) * 2 ^ x5_1.toNat)) = ji12 := shl_small hji12
                    simp only [Option.some.injEq, Prod.mk.injEq] at H
                    obtain ⟨rfl, rfl⟩ := H
                    have p278 : 0 ≤ (x10_1 : Int) := of_decide_eq_true (by first | (with_reducible assumption) | assumption)
                    have q278 : x10_1 < (l0.length : Int) := of_decide_eq_true (by first | (with_reducible assumption) | assumption)
                    obtain ⟨ad278, e278, hx278_0⟩ := Kd.at_int HR0.out x10_1 p278 q278
                    cases e278
                    replace p278 := eq_true p278
                    replace q278 := eq_true q278
                    go_wp2
                    go_ret2
                    exact ⟨by first | rfl | (simp; done) | (simp only [← hji12] <;> (first | rfl | simp)) | (simp [*]; done), by repeat (first | exact Drawn0.refl _ | apply Drawn0.step)⟩
                  · rw [if_neg c11] at H
                    exact absurd H (by simp)
              · rw [if_neg c6] at H
                have c6b0 : decide ((rd l0 x10_1) < 128) = false := decide_eq_false c6
                clear c6
                by_cases c13 : 0 ≤ x5_1
                · rw [if_pos c13] at H
                  have c13b0 := eq_true c13
                  have c13b1 : decide (0 ≤ x5_1) = true := decide_eq_true c13
                  clear c13
                  obtain ⟨ji14, hji14⟩ : ∃ j_ : Int, (shl .u64 (IntKind.u64.wrap (Go.bits .and .u8 (rd l0 x10_1) 127)) x5_1) = j_ := ⟨_, rfl⟩
                  replace H : (binary_Uvarint.l0 k1 (Go.bits .or .u64 x4_1 (ji14)) (IntKind.u64.wrap (x5_1 + 7)) l0 (l0.length : Int) (wrap64 (x10_1 + 1))) = some (r1, r2) := by first | (rw [hji14] at H; exact H) | (simp only [hji14] at H ⊢; exact H)
                  have hji14_ : (IntKind.u64.wrap ((IntKind.u64.wrap (Go.bits .and .u8 (rd l0 x10_1) 127)) * 2 ^ min x5_1.toNat 64)) = ji14 := hji14
                  have hji14z : x5_1 ≤ 64 → (IntKind.u64.wrap ((IntKind.u64.wrap (Go.bits .and .u8 (rd l0 x10_1) 127)) * 2 ^ x5_1.toNat)) = ji14 := shl_small hji14
                  have H' := Aside0.mk H
                  clear H
                  have p278 : 0 ≤ (x10_1 : Int) := of_decide_eq_true (by first | (with_reducible assumption) | assumption)
                  have q278 : x10_1 < (l0.length : Int) := of_decide_eq_true (by first | (with_reducible assumption) | assumption)
                  obtain ⟨ad278, e278, hx278_0⟩ := Kd.at_int HR0.out x10_1 p278 q278
                  cases e278
                  replace p278 := eq_true p278
                  replace q278 := eq_true q278
                  go_wp2
                  go_roundg k1
                  case measure => have := HK1.out; omega
                  case rel => exact ⟨(Go.bits .or .u64 x4_1 (ji14)), (IntKind.u64.wrap (x5_1 + 7)), (wrap64 (x10_1 + 1)), (by first | rfl | (simp; done) | (simp only [← hji14] <;> (first | rfl | simp)) | (simp [*]; done)), (by first | rfl | (simp; done) | (simp [*]; done)), (by first | rfl | (simp; done) | (simp [*]; done)), H', ⟨by have := HK1.out; omega⟩, by repeat (first | exact Drawn0.refl _ | apply Drawn0.step)⟩
                · rw [if_neg c13] at H
                  exact absurd H (by simp)
          · rw [if_neg c4] at H
            exact absurd H (by simp)
        · rw [if_neg c3] at H
          exact absurd H (by simp)
      · rw [if_neg c2] at H
        have c2b0 : decide (x10_1 < (l0.length : Int)) = false := decide_eq_false c2
        clear c2
        simp only [Option.some.injEq, Prod.mk.injEq] at H
        obtain ⟨rfl, rfl⟩ := H
        go_wp2
        go_ret2
        exact ⟨by first | rfl | (simp; done) | (simp [*]; done), by repeat (first | exact Drawn0.refl _ | apply Drawn0.step)⟩

/-! ### binary_Varint: function 33 -/
def binary_Varint.f (k : Nat) (l0 : List Int) : Option (Int × Int) := (binary_Uvarint.f k l0).bind fun bt279 => (if (Go.bits .and .u64 bt279.1 1) = 0 then (some (wrap64 (bt279.1 / 2), bt279.2)) else (some (Go.bits .xor .i64 (-1) (wrap64 (bt279.1 / 2)), bt279.2)))
theorem binary_Varint.mono : ∀ a0 k, LeO (binary_Varint.f k a0) (binary_Varint.f (k + 1) a0) := by
  intro a0 k
  unfold binary_Varint.f
  repeat' first
      | (with_reducible exact binary_Uvarint.mono _ _)
      | (with_reducible exact LeO.refl _)
      | (with_reducible exact LeO.none _)
      | (with_reducible refine LeO.ite ?_ ?_)
      | (with_reducible refine LeO.bind ?_ (fun _ => ?_))
      | exact binary_Uvarint.mono _ _
      | exact LeO.none _
      | refine LeO.ite ?_ ?_
      | refine LeO.bind ?_ (fun _ => ?_)
set_option maxHeartbeats 8000000 in
set_option maxRecDepth 100000 in
theorem binary_Varint.calls (k : Nat) (A0 : Option Addr) (c0 : Nat) (l0 : List Int) (r1 : Int) (r2 : Int) (w : World) (hr0 : Kd.C (Kd.int .u8) w A0 l0.length l0) (hc0 : l0.length ≤ c0) (h : binary_Varint.f k l0 = some (r1, r2)) :
    Calls Tryd.prog 33 #[.slice A0 l0.length c0] w fun e w' => e = .returned (.tuple #[.int .i64 r1, .int .i64 r2]) ∧ Drawn0 w w' := by
  have HR0 := Aside0.mk hr0
  have HC0 := Aside0.mk hc0
  clear hr0 hc0
  have H : ((binary_Uvarint.f k l0).bind fun bt279 => (if (Go.bits .and .u64 bt279.1 1) = 0 then (some (wrap64 (bt279.1 / 2), bt279.2)) else (some (Go.bits .xor .i64 (-1) (wrap64 (bt279.1 / 2)), bt279.2)))) = some (r1, r2) := h
  clear h
  replace H := Option.bind_eq_some_iff.mp H
  obtain ⟨⟨t279, t280⟩, A20, H⟩ := H
  replace H : (if (Go.bits .and .u64 t279 1) = 0 then (some (wrap64 (t279 / 2), t280)) else (some (Go.bits .xor .i64 (-1) (wrap64 (t279 / 2)), t280))) = some (r1, r2) := H
  have A2 := Aside0.mk A20
  clear A20
  by_cases c3 : (Go.bits .and .u64 t279 1) = 0
  · rw [if_pos c3] at H
    have c3b0 : ((Go.bits .and .u64 t279 1) == 0) = true := beq_iff_eq.mpr c3
    have c3b1 : ((Go.bits .and .u64 t279 1) != 0) = false := bne_eq_false_iff_eq.mpr c3
    clear c3
    simp only [Option.some.injEq, Prod.mk.injEq] at H
    obtain ⟨rfl, rfl⟩ := H
    go_enter Tryd.func33, Tryd.ntmps33
    go_wp2_with (first | ((with_reducible refine gate_callee (f := 34) rfl ?_); refine goesL_ (some 9) rfl rfl Tryd.func34 (by kernel_rfl) rfl #[.slice A0 l0.length c0] rfl (by (try simp only [List.map_toArray, List.map_cons, List.map_nil]); first | done | rfl | (simp only [List.length_drop, List.length_take]; rfl)) ?_; (with_reducible refine (binary_Uvarint.calls k _ _ l0 t279 t280 _ ?side1 ?side2 A2.out).mono ?_); (case side1 => repeat (first | exact HR0.out | (with_reducible refine Kd.C_alloc ?_ _) | (with_reducible refine Kd.C_drewN ?_ _) | (with_reducible refine Kd.C_drew ?_))); (case side2 => exact HC0.out); rintro e w' ⟨rfl, ⟨nd, rfl⟩⟩; refine ⟨_, rfl, ?_⟩))
    go_ret2
    exact ⟨by first | rfl | (simp; done) | (simp [*]; done), by repeat (first | exact Drawn0.refl _ | apply Drawn0.step)⟩
  · rw [if_neg c3] at H
    have c3b0 : ((Go.bits .and .u64 t279 1) == 0) = false := beq_eq_false_iff_ne.mpr c3
    have c3b1 : ((Go.bits .and .u64 t279 1) != 0) = true := bne_iff_ne.mpr c3
    simp only [Option.some.injEq, Prod.mk.injEq] at H
    obtain ⟨rfl, rfl⟩ := H
    go_enter Tryd.func33, Tryd.ntmps33
    go_wp2_with (first | ((with_reducible refine gate_callee (f := 34) rfl ?_); refine goesL_ (some 9) rfl rfl Tryd.func34 (by kernel_rfl) rfl #[.slice A0 l0.length c0] rfl (by (try simp only [List.map_toArray, List.map_cons, List.map_nil]); first | done | rfl | (simp only [List.length_drop, List.length_take]; rfl)) ?_; (with_reducible refine (binary_Uvarint.calls k _ _ l0 t279 t280 _ ?side1 ?side2 A2.out).mono ?_); (case side1 => repeat (first | exact HR0.out | (with_reducible refine Kd.C_alloc ?_ _) | (with_reducible refine Kd.C_drewN ?_ _) | (with_reducible refine Kd.C_drew ?_))); (case side2 => exact HC0.out); rintro e w' ⟨rfl, ⟨nd, rfl⟩⟩; refine ⟨_, rfl, ?_⟩))
    go_ret2
    exact ⟨by first | rfl | (simp; done) | (simp [*]; done), by repeat (first | exact Drawn0.refl _ | apply Drawn0.step)⟩

-- NOT PRINTED: function 23 (thw_HashWheel_Decode)

-- NOT PRINTED: function 35 (binary_littleEndian_AppendUint64)

/-! ### binary_AppendUvarint: function 37 -/
def binary_AppendUvarint.l0 : Nat → List Int → Int → Option (List Int)
  | 0, _, _ => none
  | k + 1, x0, x1 => if x1 ≥ 128 then (if x0.length < 140737488355328 then (binary_AppendUvarint.l0 k (x0 ++ [Go.bits .or .u8 ((x1) % 256) 128]) (x1 / 128)) else (none)) else (if x0.length < 140737488355328 then (some (x0 ++ [(x1) % 256])) else (none))
def binary_AppendUvarint.f (k : Nat) (l0 : List Int) (a1 : Int) : Option (List Int) := binary_AppendUvarint.l0 k l0 a1
theorem binary_AppendUvarint.mono_l : ∀ k, (∀ y0 y1, LeO (binary_AppendUvarint.l0 k y0 y1) (binary_AppendUvarint.l0 (k + 1) y0 y1))
  | 0 => fun _ _ r h => by simp [binary_AppendUvarint.l0] at h
  | k + 1 => by
    have ih0 := binary_AppendUvarint.mono_l k
    · intro y0 y1
      unfold binary_AppendUvarint.l0
      repeat' first
      | (with_reducible exact ih0 _ _)
      | (with_reducible exact LeO.refl _)
      | (with_reducible exact LeO.none _)
      | (with_reducible refine LeO.ite ?_ ?_)
      | (with_reducible refine LeO.bind ?_ (fun _ => ?_))
      | exact ih0 _ _
      | exact LeO.none _
      | refine LeO.ite ?_ ?_
      | refine LeO.bind ?_ (fun _ => ?_)
theorem binary_AppendUvarint.mono : ∀ a0 a1 k, LeO (binary_AppendUvarint.f k a0 a1) (binary_AppendUvarint.f (k + 1) a0 a1) := by
  intro a0 a1 k
  have ih0 := binary_AppendUvarint.mono_l k
  unfold binary_AppendUvarint.f
  repeat' first
      | (with_reducible exact ih0 _ _)
      | (with_reducible exact LeO.refl _)
      | (with_reducible exact LeO.none _)
      | (with_reducible refine LeO.ite ?_ ?_)
      | (with_reducible refine LeO.bind ?_ (fun _ => ?_))
      | exact ih0 _ _
      | exact LeO.none _
      | refine LeO.ite ?_ ?_
      | refine LeO.bind ?_ (fun _ => ?_)
set_option maxHeartbeats 8000000 in
set_option maxRecDepth 100000 in
theorem binary_AppendUvarint.calls (k : Nat) (P0_ : Nat → Prop) (u9000_ : Value) (l0 : List Int) (a1 : Int) (r : List Int) (w0 w : World) (hB : Below w0.heap.size w0 w) (ho0 : Kd.R (Kd.int .u8) 5 w w0.heap.size P0_ u9000_ l0) (h : binary_AppendUvarint.f k l0 a1 = some r) :
    Calls Tryd.prog 37 #[u9000_, .int .u64 a1] w fun e w' => ∃ v0_ : Value, e = .returned (v0_) ∧ Kd.R (Kd.int .u8) 5 w' w0.heap.size (fun k_ => (P0_ k_ ∨ w.heap.size ≤ k_)) v0_ r ∧ Below w0.heap.size w0 w' ∧ Kept w w' (fun k_ => P0_ k_) := by
  have HO0 := Aside0.mk (show Kd.R (Kd.int .u8) 5 w w0.heap.size (fun k_ => (P0_ k_ ∨ w.heap.size ≤ k_)) u9000_ l0 from Kd.R_mono ho0 (fun k_ hk => (.inl hk)))
  have HK := Aside0.mk (Kept.refl w (fun k_ => P0_ k_))
  have HW0 := Aside0.mk hB.size
  have HB := Aside0.mk hB
  clear hB
  have H : (binary_AppendUvarint.l0 k l0 a1) = some r := h
  clear h
  have H' := Aside0.mk H
  clear H
  go_enter Tryd.func37, Tryd.ntmps37
  go_wp2
  go_loopg [0, 1] k (fun kq v0 v1 w' => ∃ (x0_1 : List Int) (x1_1 : Int), v1 = .int .u64 x1_1 ∧ Aside0 (binary_AppendUvarint.l0 kq x0_1 x1_1 = some r) ∧ Aside0 (kq ≤ k) ∧ Aside0 (Kd.R (Kd.int .u8) 5 w' w0.heap.size (fun k_ => (P0_ k_ ∨ w.heap.size ≤ k_)) v0 x0_1) ∧ Aside0 (Kept w w' (fun k_ => P0_ k_)) ∧ Aside0 (Below w0.heap.size w0 w'))
  case atStart => exact ⟨(l0), (a1), (by first | rfl | (simp; done) | (simp [*]; done)), H', ⟨Nat.le_refl _⟩, ⟨by (with_reducible repeat (first | apply Kd.R_alloc | apply Kd.R_drewN | apply Kd.R_drew)); exact HO0.out⟩, ⟨by repeat (first | (with_reducible first | exact HK.out | apply Kept.alloc | apply Kept.drewN | apply Kept.drew) | exact HK.out)⟩, ⟨by repeat (first | (with_reducible first | exact HB.out | apply below_alloc | apply pw_below_drewN | apply below_drew1) | exact HB.out)⟩⟩
  case round =>
    clear H'
    try clear p2
    obtain ⟨x0_1, x1_1, rfl, HA, HK1, HO_0, HK, HB⟩ := hrel
    cases gk with
    | zero => exact absurd HA.out (by simp [binary_AppendUvarint.l0])
    | succ k1 =>
      have H := HA.out
      clear HA
      simp only [binary_AppendUvarint.l0] at H
      by_cases c3 : x1_1 ≥ 128
      · rw [if_pos c3] at H
        have c3b0 : decide (128 ≤ x1_1) = true := decide_eq_true c3
        clear c3
        by_cases c4 : x0_1.length < 140737488355328
        · rw [if_pos c4] at H
          have LMc4 := Aside0.mk c4
          clear c4
          obtain ⟨y281, hy281⟩ : ∃ y_ : List Int, y_ = (x0_1 ++ [Go.bits .or .u8 ((x1_1) % 256) 128]) := ⟨_, rfl⟩
          replace H : (binary_AppendUvarint.l0 k1 y281 (x1_1 / 128)) = some r := by first | (rw [hy281]; with_reducible exact H) | (have H2_ := (Option.bind_some _ _).symm.trans H; rw [hy281]; with_reducible exact H2_) | (have H2_ := (Option.bind_some _ _).symm.trans H; with_reducible exact H2_) | with_reducible exact H | (rw [hy281]; exact H) | exact H
          have Ny281 := Aside0.mk hy281
          clear hy281
          have H' := Aside0.mk H
          clear H
          go_wp2_with (first | ((with_reducible refine gate_builtin (b := .append) (xs := #[.tmp 7, .tmp 11]) rfl ?_); at_builtin; refine Kd.R_append (Kd.int .u8) (w0 := w0) w0.heap.size rfl (.tmp 7) (.tmp 11) 57 5 (.int .u8 0) 1 rfl Tryd.underlying57 info5 rfl (by decide) (by omega) u0 x0_1 (Go.bits .or .u8 ((x1_1) % 256) 128) [.int .u8 (Go.bits .or .u8 ((x1_1) % 256) 128)] (fun k_ => (P0_ k_ ∨ w.heap.size ≤ k_)) (fun _ => False) rfl rfl ?aP (fun _ hk => hk.elim) ?aF ?aO ?aB ?aS ?aL ?_; (case aP => exact rfl); (case aB => exact (by repeat (first | (with_reducible first | exact HB.out | apply below_alloc | apply pw_below_drewN | apply below_drew1) | exact HB.out))); (case aF => exact (fun k_ hk => (.inr (Nat.le_trans (by first | exact HK.out.1 | exact (show Kept w _ (fun k_ => P0_ k_) from by repeat (first | (with_reducible first | exact HK.out | apply Kept.alloc | apply Kept.drewN | apply Kept.drew) | exact HK.out)).1) hk)))); (case aO => exact (by (with_reducible repeat (first | apply Kd.R_alloc | apply Kd.R_drewN | apply Kd.R_drew)); exact HO_0.out)); (case aS => exact (below_size (by repeat (first | (with_reducible first | exact HB.out | apply below_alloc | apply pw_below_drewN | apply below_drew1) | exact HB.out)))); (case aL => have := LMc4.out; omega); intro v282 w5 ho hb hg hat; rw [← Ny281.out] at ho; have n0_ := Aside0.mk (hb); have n1_ := Aside0.mk (Kept.of_grown (S := (fun k_ => P0_ k_)) hg (by repeat (first | (with_reducible first | exact HK.out | apply Kept.alloc | apply Kept.drewN | apply Kept.drew) | exact HK.out)) (fun k_ e_ => (HO_0.out.1 k_ e_))); have n2_ := Aside0.mk (ho); clear HB; clear HK; clear HO_0; have HB := n0_; have HK := n1_; have HO283 := n2_; clear n0_ n1_ n2_; clear ho hb hg hat))
          go_roundg k1
          case measure => have := HK1.out; omega
          case rel => exact ⟨(y281), (x1_1 / 128), (by first | rfl | (simp; done) | (simp [*]; done)), H', ⟨by have := HK1.out; omega⟩, ⟨by (with_reducible repeat (first | apply Kd.R_alloc | apply Kd.R_drewN | apply Kd.R_drew)); exact HO283.out⟩, ⟨by repeat (first | (with_reducible first | exact HK.out | apply Kept.alloc | apply Kept.drewN | apply Kept.drew) | exact HK.out)⟩, ⟨by repeat (first | (with_reducible first | exact HB.out | apply below_alloc | apply pw_below_drewN | apply below_drew1) | exact HB.out)⟩⟩
        · rw [if_neg c4] at H
          exact absurd H (by simp)
      · rw [if_neg c3] at H
        have c3b0 : decide (128 ≤ x1_1) = false := decide_eq_false c3
        clear c3
        by_cases c6 : x0_1.length < 140737488355328
        · rw [if_pos c6] at H
          have LMc6 := Aside0.mk c6
          clear c6
          obtain ⟨y284, hy284⟩ : ∃ y_ : List Int, y_ = (x0_1 ++ [(x1_1) % 256]) := ⟨_, rfl⟩
          replace H : (some y284) = some r := by first | (rw [hy284]; with_reducible exact H) | (have H2_ := (Option.bind_some _ _).symm.trans H; rw [hy284]; with_reducible exact H2_) | (have H2_ := (Option.bind_some _ _).symm.trans H; with_reducible exact H2_) | with_reducible exact H | (rw [hy284]; exact H) | exact H
          have Ny284 := Aside0.mk hy284
          clear hy284
          obtain rfl := Option.some.inj H
          go_wp2_with (first | ((with_reducible refine gate_builtin (b := .append) (xs := #[.tmp 15, .tmp 18]) rfl ?_); at_builtin; refine Kd.R_append (Kd.int .u8) (w0 := w0) w0.heap.size rfl (.tmp 15) (.tmp 18) 57 5 (.int .u8 0) 1 rfl Tryd.underlying57 info5 rfl (by decide) (by omega) u0 x0_1 ((x1_1) % 256) [.int .u8 ((x1_1) % 256)] (fun k_ => (P0_ k_ ∨ w.heap.size ≤ k_)) (fun _ => False) rfl rfl ?aP (fun _ hk => hk.elim) ?aF ?aO ?aB ?aS ?aL ?_; (case aP => exact rfl); (case aB => exact (by repeat (first | (with_reducible first | exact HB.out | apply below_alloc | apply pw_below_drewN | apply below_drew1) | exact HB.out))); (case aF => exact (fun k_ hk => (.inr (Nat.le_trans (by first | exact HK.out.1 | exact (show Kept w _ (fun k_ => P0_ k_) from by repeat (first | (with_reducible first | exact HK.out | apply Kept.alloc | apply Kept.drewN | apply Kept.drew) | exact HK.out)).1) hk)))); (case aO => exact (by (with_reducible repeat (first | apply Kd.R_alloc | apply Kd.R_drewN | apply Kd.R_drew)); exact HO_0.out)); (case aS => exact (below_size (by repeat (first | (with_reducible first | exact HB.out | apply below_alloc | apply pw_below_drewN | apply below_drew1) | exact HB.out)))); (case aL => have := LMc6.out; omega); intro v285 w7 ho hb hg hat; rw [← Ny284.out] at ho; have n0_ := Aside0.mk (hb); have n1_ := Aside0.mk (Kept.of_grown (S := (fun k_ => P0_ k_)) hg (by repeat (first | (with_reducible first | exact HK.out | apply Kept.alloc | apply Kept.drewN | apply Kept.drew) | exact HK.out)) (fun k_ e_ => (HO_0.out.1 k_ e_))); have n2_ := Aside0.mk (ho); clear HB; clear HK; clear HO_0; have HB := n0_; have HK := n1_; have HO286 := n2_; clear n0_ n1_ n2_; clear ho hb hg hat))
          go_ret
          exact ⟨_, by first | rfl | (simp [errW_none, errW_some] <;> rfl) | (simp [*, errW_none, errW_some] <;> rfl), by (with_reducible repeat (first | apply Kd.R_alloc | apply Kd.R_drewN | apply Kd.R_drew)); exact HO286.out, by repeat (first | (with_reducible first | exact HB.out | apply below_alloc | apply pw_below_drewN | apply below_drew1) | exact HB.out), by repeat (first | (with_reducible first | exact HK.out | apply Kept.alloc | apply Kept.drewN | apply Kept.drew) | exact HK.out)⟩
        · rw [if_neg c6] at H
          exact absurd H (by simp)

-- NOT PRINTED: function 36 (binary_AppendVarint)

-- NOT PRINTED: function 24 (thw_HashWheel_Encode)

-- NOT PRINTED: function 13 (impl_WheelBack)

/-! ### laws_FnWheelBack: function 5 -/
-- LAID YtnkjlfadegjjoaaDoor.WhA.WLaid | ⟨⟨_, _, C2⟩⟩
section
open _root_.Go.Proofs.YtnkjlfadegjjoaaDoor.WhA _root_.Go.Proofs.YtnkjlfadegjjoaaDoor.WhC _root_.Go.Proofs.YtnkjlfadegjjoaaDoor.WhT _root_.Go.Proofs.YtnkjlfadegjjoaaDoor.WhF
def laws_FnWheelBack.ts (l : List S34) : List Trn := l.map (fun a => (a.f0, a.f1, a.f2, a.f3, a.f4))
def laws_FnWheelBack.f (l0 : List (S34)) (a1 : Int) (l2 : List (S34)) : Option Bool := if (l0 ++ l2).all (fun a => decide (0 ≤ a.f1) && decide (a.f1 < 18446744073709551616)) = true ∧ 0 ≤ a1 ∧ a1 < 18446744073709551616 then some true else none
theorem laws_FnWheelBack.tsAt {w : World} {A : Option Addr} {l : List S34} (h : Kd.C k34 w A l.length l) : Kd.C kTr w A (laws_FnWheelBack.ts l).length (laws_FnWheelBack.ts l) := by
  obtain ⟨h1, h2, h3⟩ := h
  have hl : (laws_FnWheelBack.ts l).length = l.length := List.length_map _
  refine ⟨rfl, by rw [hl]; exact h2, fun hn => ?_⟩
  obtain ⟨ad, e, hc⟩ := h3 (by rw [hl] at hn; exact hn)
  refine ⟨ad, e, fun j p hj => ?_⟩
  unfold laws_FnWheelBack.ts at hj
  rw [List.getElem?_map] at hj
  obtain ⟨y, hy, rfl⟩ := Option.map_eq_some_iff.1 hj
  exact hc j y hy
theorem laws_FnWheelBack.wfs {l : List S34} (h : l.all (fun a => decide (0 ≤ a.f1) && decide (a.f1 < 18446744073709551616)) = true) : ∀ i, i < (laws_FnWheelBack.ts l).length → wfU (rdTr (laws_FnWheelBack.ts l) i).2.1 := fun i hi => by
  have hl : (laws_FnWheelBack.ts l).length = l.length := List.length_map _
  have hi' : i < l.length := by rw [← hl]; exact hi
  have := List.all_eq_true.1 h (l[i]'hi') (List.getElem_mem hi')
  simp only [Bool.and_eq_true, decide_eq_true_eq] at this
  have e : rdTr (laws_FnWheelBack.ts l) i = ((l[i]'hi').f0, (l[i]'hi').f1, (l[i]'hi').f2, (l[i]'hi').f3, (l[i]'hi').f4) := by
    unfold rdTr laws_FnWheelBack.ts
    rw [List.getD_eq_getElem?_getD, List.getElem?_map, List.getElem?_eq_getElem hi']
    rfl
  rw [e]
  exact this
theorem laws_FnWheelBack.calls (A0 : Option Addr) (c0 : Nat) (l0 : List (S34)) (a1 : Int) (A2 : Option Addr) (c2 : Nat) (l2 : List (S34)) (r : Bool) (w : World) (hr0 : Kd.C k34 w A0 l0.length l0) (hc0 : l0.length ≤ c0) (hr2 : Kd.C k34 w A2 l2.length l2) (hc2 : l2.length ≤ c2) (h : laws_FnWheelBack.f l0 a1 l2 = some r) (hE : WLaid w) :
    Calls Tryd.prog 5 #[.slice A0 l0.length c0, .int .u64 a1, .slice A2 l2.length c2] w fun e w' => e = .returned (.bool r) ∧ Below w.heap.size w w' := by
  unfold laws_FnWheelBack.f at h
  split at h
  · rename_i hc
    obtain rfl := Option.some.inj h
    have hl : (laws_FnWheelBack.ts l0).length = l0.length := List.length_map _
    have hl2 : (laws_FnWheelBack.ts l2).length = l2.length := List.length_map _
    obtain ⟨n, rfl⟩ := Int.eq_ofNat_of_zero_le hc.2.1
    have := backlaw_calls (laws_FnWheelBack.ts l0) (laws_FnWheelBack.ts l2) A0 A2 c0 c2 n w (laws_FnWheelBack.tsAt hr0) (by rw [hl]; exact hc0) (laws_FnWheelBack.tsAt hr2) (by rw [hl2]; exact hc2) hE (by
      have q := laws_FnWheelBack.wfs hc.1
      have e : laws_FnWheelBack.ts (l0 ++ l2) = laws_FnWheelBack.ts l0 ++ laws_FnWheelBack.ts l2 := List.map_append
      rw [e] at q
      exact q) (by have := hc.2.2; omega)
    rw [hl, hl2] at this
    exact this
  · exact absurd h (by simp)
end




end Go.Proofs.YtnkjlfadegjjoaaDoor.PFnWheelBack
