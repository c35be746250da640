-- Written by hprint.py (this session's program, over the kit's printing program, with this session's own contracts in it). Not trusted: Lean checks it.
import Derived.Test.YtaobajfdnidkfaaPFnCollidex0
import Derived.Test.YtaobajfdnidkfaaPFnCollidex2
namespace Go.Proofs.Ytaobajfdnidkfaa.PFnCollide
open Go.RowKit Go.Proofs.YtaobajfdnidkfaaW.PrintWords Go.Proofs.YtaobajfdnidkfaaW.PrintLast Go.Proofs.YtaobajfdnidkfaaW.PrintMore
attribute [local go_sem] max2_int min2_int max_two min_two max_three min_three max_four min_four   -- for this text's walks alone
set_option linter.unusedVariables false
set_option linter.unusedSimpArgs false

/-! ### server_isSubsetMatchTokenized: function 61 -/
mutual
def server_isSubsetMatchTokenized.l0 : Nat → List ByteArray → List ByteArray → List ByteArray → Int → Int → Option (Bool)
  | 0, _, _, _, _, _ => none
  | k + 1, x0, x1, x10, x11, x12 => if x12 < x11 then (if 0 ≤ x12 then (if x12 < (x10.length : Int) then (if x12 ≥ (x0.length : Int) then (some false) else (if ((rdOf ByteArray.empty x10 x12).size : Int) = 0 then (some false) else (if 0 < ((rdOf ByteArray.empty x10 x12).size : Int) then (if (bt (rdOf ByteArray.empty x10 x12) 0) = 62 then (server_isSubsetMatchTokenized.j1 k x0 x1 x12 (rdOf ByteArray.empty x10 x12) x10 x11 x12 (((rdOf ByteArray.empty x10 x12).size : Int) == 1)) else (server_isSubsetMatchTokenized.j1 k x0 x1 x12 (rdOf ByteArray.empty x10 x12) x10 x11 x12 false)) else (none)))) else (none)) else (none)) else (some ((x0.length : Int) == (x1.length : Int)))
def server_isSubsetMatchTokenized.j1 : Nat → List ByteArray → List ByteArray → Int → ByteArray → List ByteArray → Int → Int → Bool → Option (Bool)
  | 0, _, _, _, _, _, _, _, _ => none
  | k + 1, x0, x1, x5, x6, x10, x11, x12, x31 => if x31 = true then (some true) else (if 0 ≤ x5 then (if x5 < (x0.length : Int) then (if ((rdOf ByteArray.empty x0 x5).size : Int) = 0 then (server_isSubsetMatchTokenized.j2 k x0 x1 x5 x6 (rdOf ByteArray.empty x0 x5) x10 x11 x12 true) else (if 0 < ((rdOf ByteArray.empty x0 x5).size : Int) then (if (bt (rdOf ByteArray.empty x0 x5) 0) = 62 then (server_isSubsetMatchTokenized.j2 k x0 x1 x5 x6 (rdOf ByteArray.empty x0 x5) x10 x11 x12 (((rdOf ByteArray.empty x0 x5).size : Int) == 1)) else (server_isSubsetMatchTokenized.j2 k x0 x1 x5 x6 (rdOf ByteArray.empty x0 x5) x10 x11 x12 false)) else (none))) else (none)) else (none))
def server_isSubsetMatchTokenized.j2 : Nat → List ByteArray → List ByteArray → Int → ByteArray → ByteArray → List ByteArray → Int → Int → Bool → Option (Bool)
  | 0, _, _, _, _, _, _, _, _, _ => none
  | k + 1, x0, x1, x5, x6, x8, x10, x11, x12, x48 => if x48 = true then (some false) else (if 0 < (x8.size : Int) then (if (bt x8 0) = 42 then (server_isSubsetMatchTokenized.j3 k x0 x1 x5 x6 x8 x10 x11 x12 ((x8.size : Int) == 1)) else (server_isSubsetMatchTokenized.j3 k x0 x1 x5 x6 x8 x10 x11 x12 false)) else (none))
def server_isSubsetMatchTokenized.j3 : Nat → List ByteArray → List ByteArray → Int → ByteArray → ByteArray → List ByteArray → Int → Int → Bool → Option (Bool)
  | 0, _, _, _, _, _, _, _, _, _ => none
  | k + 1, x0, x1, x5, x6, x8, x10, x11, x12, x56 => if x56 = true then (if 0 < (x6.size : Int) then (if (bt x6 0) = 42 then (server_isSubsetMatchTokenized.j4 k x0 x1 x5 ((x6.size : Int) == 1) x10 x11 x12) else (server_isSubsetMatchTokenized.j4 k x0 x1 x5 false x10 x11 x12)) else (none)) else (if 0 < (x6.size : Int) then (if (bt x6 0) = 42 then (server_isSubsetMatchTokenized.l0 k x0 x1 x10 x11 (wrap64 (x12 + 1))) else ((strings_Compare.f x8 x6).bind fun t128 => (if t128 = 0 then (server_isSubsetMatchTokenized.l0 k x0 x1 x10 x11 (wrap64 (x12 + 1))) else (some false)))) else (none))
def server_isSubsetMatchTokenized.j4 : Nat → List ByteArray → List ByteArray → Int → Bool → List ByteArray → Int → Int → Option (Bool)
  | 0, _, _, _, _, _, _, _ => none
  | k + 1, x0, x1, x5, x9, x10, x11, x12 => if x9 = true then (if x5 ≥ (x1.length : Int) then (some true) else (server_isSubsetMatchTokenized.l0 k x0 x1 x10 x11 (wrap64 (x12 + 1)))) else (some false)
end
def server_isSubsetMatchTokenized.f (k : Nat) (l0 : List ByteArray) (l1 : List ByteArray) : Option (Bool) := server_isSubsetMatchTokenized.l0 k l0 l1 l1 (l1.length : Int) 0
theorem server_isSubsetMatchTokenized.mono_l : ∀ k, (∀ y0 y1 y2 y3 y4, LeO (server_isSubsetMatchTokenized.l0 k y0 y1 y2 y3 y4) (server_isSubsetMatchTokenized.l0 (k + 1) y0 y1 y2 y3 y4)) ∧ (∀ y0 y1 y2 y3 y4 y5 y6 y7, LeO (server_isSubsetMatchTokenized.j1 k y0 y1 y2 y3 y4 y5 y6 y7) (server_isSubsetMatchTokenized.j1 (k + 1) y0 y1 y2 y3 y4 y5 y6 y7)) ∧ (∀ y0 y1 y2 y3 y4 y5 y6 y7 y8, LeO (server_isSubsetMatchTokenized.j2 k y0 y1 y2 y3 y4 y5 y6 y7 y8) (server_isSubsetMatchTokenized.j2 (k + 1) y0 y1 y2 y3 y4 y5 y6 y7 y8)) ∧ (∀ y0 y1 y2 y3 y4 y5 y6 y7 y8, LeO (server_isSubsetMatchTokenized.j3 k y0 y1 y2 y3 y4 y5 y6 y7 y8) (server_isSubsetMatchTokenized.j3 (k + 1) y0 y1 y2 y3 y4 y5 y6 y7 y8)) ∧ (∀ y0 y1 y2 y3 y4 y5 y6, LeO (server_isSubsetMatchTokenized.j4 k y0 y1 y2 y3 y4 y5 y6) (server_isSubsetMatchTokenized.j4 (k + 1) y0 y1 y2 y3 y4 y5 y6))
  | 0 => ⟨fun _ _ _ _ _ r h => by simp [server_isSubsetMatchTokenized.l0] at h, fun _ _ _ _ _ _ _ _ r h => by simp [server_isSubsetMatchTokenized.j1] at h, fun _ _ _ _ _ _ _ _ _ r h => by simp [server_isSubsetMatchTokenized.j2] at h, fun _ _ _ _ _ _ _ _ _ r h => by simp [server_isSubsetMatchTokenized.j3] at h, fun _ _ _ _ _ _ _ r h => by simp [server_isSubsetMatchTokenized.j4] at h⟩
  | k + 1 => by
    obtain ⟨ih0, ih1, ih2, ih3, ih4⟩ := server_isSubsetMatchTokenized.mono_l k
    refine ⟨?_, ?_, ?_, ?_, ?_⟩
    · intro y0 y1 y2 y3 y4
      unfold server_isSubsetMatchTokenized.l0
      repeat' first
      | (with_reducible exact ih0 _ _ _ _ _)
      | (with_reducible exact ih1 _ _ _ _ _ _ _ _)
      | (with_reducible exact ih2 _ _ _ _ _ _ _ _ _)
      | (with_reducible exact ih3 _ _ _ _ _ _ _ _ _)
      | (with_reducible exact ih4 _ _ _ _ _ _ _)
      | (with_reducible exact LeO.refl _)
      | (with_reducible exact LeO.none _)
      | (with_reducible refine LeO.ite ?_ ?_)
      | (with_reducible refine LeO.bind ?_ (fun _ => ?_))
      | exact ih0 _ _ _ _ _
      | exact ih1 _ _ _ _ _ _ _ _
      | exact ih2 _ _ _ _ _ _ _ _ _
      | exact ih3 _ _ _ _ _ _ _ _ _
      | exact ih4 _ _ _ _ _ _ _
      | exact LeO.none _
      | refine LeO.ite ?_ ?_
      | refine LeO.bind ?_ (fun _ => ?_)
    · intro y0 y1 y2 y3 y4 y5 y6 y7
      unfold server_isSubsetMatchTokenized.j1
      repeat' first
      | (with_reducible exact ih0 _ _ _ _ _)
      | (with_reducible exact ih1 _ _ _ _ _ _ _ _)
      | (with_reducible exact ih2 _ _ _ _ _ _ _ _ _)
      | (with_reducible exact ih3 _ _ _ _ _ _ _ _ _)
      | (with_reducible exact ih4 _ _ _ _ _ _ _)
      | (with_reducible exact LeO.refl _)
      | (with_reducible exact LeO.none _)
      | (with_reducible refine LeO.ite ?_ ?_)
      | (with_reducible refine LeO.bind ?_ (fun _ => ?_))
      | exact ih0 _ _ _ _ _
      | exact ih1 _ _ _ _ _ _ _ _
      | exact ih2 _ _ _ _ _ _ _ _ _
      | exact ih3 _ _ _ _ _ _ _ _ _
      | exact ih4 _ _ _ _ _ _ _
      | exact LeO.none _
      | refine LeO.ite ?_ ?_
      | refine LeO.bind ?_ (fun _ => ?_)
    · intro y0 y1 y2 y3 y4 y5 y6 y7 y8
      unfold server_isSubsetMatchTokenized.j2
      repeat' first
      | (with_reducible exact ih0 _ _ _ _ _)
      | (with_reducible exact ih1 _ _ _ _ _ _ _ _)
      | (with_reducible exact ih2 _ _ _ _ _ _ _ _ _)
      | (with_reducible exact ih3 _ _ _ _ _ _ _ _ _)
      | (with_reducible exact ih4 _ _ _ _ _ _ _)
      | (with_reducible exact LeO.refl _)
      | (with_reducible exact LeO.none _)
      | (with_reducible refine LeO.ite ?_ ?_)
      | (with_reducible refine LeO.bind ?_ (fun _ => ?_))
      | exact ih0 _ _ _ _ _
      | exact ih1 _ _ _ _ _ _ _ _
      | exact ih2 _ _ _ _ _ _ _ _ _
      | exact ih3 _ _ _ _ _ _ _ _ _
      | exact ih4 _ _ _ _ _ _ _
      | exact LeO.none _
      | refine LeO.ite ?_ ?_
      | refine LeO.bind ?_ (fun _ => ?_)
    · intro y0 y1 y2 y3 y4 y5 y6 y7 y8
      unfold server_isSubsetMatchTokenized.j3
      repeat' first
      | (with_reducible exact ih0 _ _ _ _ _)
      | (with_reducible exact ih1 _ _ _ _ _ _ _ _)
      | (with_reducible exact ih2 _ _ _ _ _ _ _ _ _)
      | (with_reducible exact ih3 _ _ _ _ _ _ _ _ _)
      | (with_reducible exact ih4 _ _ _ _ _ _ _)
      | (with_reducible exact LeO.refl _)
      | (with_reducible exact LeO.none _)
      | (with_reducible refine LeO.ite ?_ ?_)
      | (with_reducible refine LeO.bind ?_ (fun _ => ?_))
      | exact ih0 _ _ _ _ _
      | exact ih1 _ _ _ _ _ _ _ _
      | exact ih2 _ _ _ _ _ _ _ _ _
      | exact ih3 _ _ _ _ _ _ _ _ _
      | exact ih4 _ _ _ _ _ _ _
      | exact LeO.none _
      | refine LeO.ite ?_ ?_
      | refine LeO.bind ?_ (fun _ => ?_)
    · intro y0 y1 y2 y3 y4 y5 y6
      unfold server_isSubsetMatchTokenized.j4
      repeat' first
      | (with_reducible exact ih0 _ _ _ _ _)
      | (with_reducible exact ih1 _ _ _ _ _ _ _ _)
      | (with_reducible exact ih2 _ _ _ _ _ _ _ _ _)
      | (with_reducible exact ih3 _ _ _ _ _ _ _ _ _)
      | (with_reducible exact ih4 _ _ _ _ _ _ _)
      | (with_reducible exact LeO.refl _)
      | (with_reducible exact LeO.none _)
      | (with_reducible refine LeO.ite ?_ ?_)
      | (with_reducible refine LeO.bind ?_ (fun _ => ?_))
      | exact ih0 _ _ _ _ _
      | exact ih1 _ _ _ _ _ _ _ _
      | exact ih2 _ _ _ _ _ _ _ _ _
      | exact ih3 _ _ _ _ _ _ _ _ _
      | exact ih4 _ _ _ _ _ _ _
      | exact LeO.none _
      | refine LeO.ite ?_ ?_
      | refine LeO.bind ?_ (fun _ => ?_)
theorem server_isSubsetMatchTokenized.mono : ∀ a0 a1 k, LeO (server_isSubsetMatchTokenized.f k a0 a1) (server_isSubsetMatchTokenized.f (k + 1) a0 a1) := by
  intro a0 a1 k
  obtain ⟨ih0, ih1, ih2, ih3, ih4⟩ := server_isSubsetMatchTokenized.mono_l k
  unfold server_isSubsetMatchTokenized.f
  repeat' first
      | (with_reducible exact ih0 _ _ _ _ _)
      | (with_reducible exact ih1 _ _ _ _ _ _ _ _)
      | (with_reducible exact ih2 _ _ _ _ _ _ _ _ _)
      | (with_reducible exact ih3 _ _ _ _ _ _ _ _ _)
      | (with_reducible exact ih4 _ _ _ _ _ _ _)
      | (with_reducible exact LeO.refl _)
      | (with_reducible exact LeO.none _)
      | (with_reducible refine LeO.ite ?_ ?_)
      | (with_reducible refine LeO.bind ?_ (fun _ => ?_))
      | exact ih0 _ _ _ _ _
      | exact ih1 _ _ _ _ _ _ _ _
      | exact ih2 _ _ _ _ _ _ _ _ _
      | exact ih3 _ _ _ _ _ _ _ _ _
      | exact ih4 _ _ _ _ _ _ _
      | exact LeO.none _
      | refine LeO.ite ?_ ?_
      | refine LeO.bind ?_ (fun _ => ?_)
set_option maxHeartbeats 8000000 in
set_option maxRecDepth 100000 in
theorem server_isSubsetMatchTokenized.calls (k : Nat) (A0 : Option Addr) (c0 : Nat) (l0 : List ByteArray) (A1 : Option Addr) (c1 : Nat) (l1 : List ByteArray) (r : Bool) (w : World) (hr0 : Kd.C Kd.string w A0 l0.length l0) (hc0 : l0.length ≤ c0) (hr1 : Kd.C Kd.string w A1 l1.length l1) (hc1 : l1.length ≤ c1) (h : server_isSubsetMatchTokenized.f k l0 l1 = some r) :
    Calls Try.prog 61 #[.slice A0 l0.length c0, .slice A1 l1.length c1] w fun e w' => e = .returned (.bool r) ∧ Drawn0 w w' := by
  have HR0 := Aside0.mk hr0
  have HC0 := Aside0.mk hc0
  clear hr0 hc0
  have HR1 := Aside0.mk hr1
  have HC1 := Aside0.mk hc1
  clear hr1 hc1
  have H : (server_isSubsetMatchTokenized.l0 k l0 l1 l1 (l1.length : Int) 0) = some r := h
  clear h
  have H' := Aside0.mk H
  clear H
  go_enter Try.func61, Try.ntmps61
  go_wp2
  go_loopg [12] k (fun kq v12 w' => ∃ (x12_1 : Int), v12 = .int .i64 x12_1 ∧ Aside0 (server_isSubsetMatchTokenized.l0 kq l0 l1 l1 (l1.length : Int) x12_1 = some r) ∧ Aside0 (kq ≤ k) ∧ Drawn0 w w')
  case atStart => exact ⟨(0), (by first | rfl | (simp; done) | (simp [*]; done)), H', ⟨Nat.le_refl _⟩, by repeat (first | exact Drawn0.refl _ | apply Drawn0.step)⟩
  case round =>
    clear H'
    try clear c1
    try clear p2
    obtain ⟨x12_1, rfl, HA, HK1, ⟨m1, rfl⟩⟩ := hrel
    cases gk with
    | zero => exact absurd HA.out (by simp [server_isSubsetMatchTokenized.l0])
    | succ k1 =>
      have H := HA.out
      clear HA
      simp only [server_isSubsetMatchTokenized.l0] at H
      by_cases c3 : x12_1 < (l1.length : Int)
      · rw [if_pos c3] at H
        have c3b0 : decide (x12_1 < (l1.length : Int)) = true := decide_eq_true c3
        clear c3
        by_cases c4 : 0 ≤ x12_1
        · rw [if_pos c4] at H
          have c4b0 : decide (0 ≤ x12_1) = true := decide_eq_true c4
          clear c4
          by_cases c5 : x12_1 < (l1.length : Int)
          · rw [if_pos c5] at H
            have c5b0 : decide (x12_1 < (l1.length : Int)) = true := decide_eq_true c5
            clear c5
            by_cases c6 : x12_1 ≥ (l0.length : Int)
            · rw [if_pos c6] at H
              have c6b0 : decide ((l0.length : Int) ≤ x12_1) = true := decide_eq_true c6
              clear c6
              obtain rfl := Option.some.inj H
              have p126 : 0 ≤ (x12_1 : Int) := of_decide_eq_true (by first | (with_reducible assumption) | assumption)
              have q126 : x12_1 < (l1.length : Int) := of_decide_eq_true (by first | (with_reducible assumption) | assumption)
              obtain ⟨ad126, e126, hx126_0⟩ := Kd.at_string HR1.out x12_1 p126 q126
              cases e126
              replace p126 := eq_true p126
              replace q126 := eq_true q126
              go_wp2
              go_ret
              exact ⟨by first | rfl | (simp; done) | (simp [*]; done), by repeat (first | exact Drawn0.refl _ | apply Drawn0.step)⟩
            · rw [if_neg c6] at H
              have c6b0 : decide ((l0.length : Int) ≤ x12_1) = false := decide_eq_false c6
              clear c6
              by_cases c7 : ((rdOf ByteArray.empty l1 x12_1).size : Int) = 0
              · rw [if_pos c7] at H
                have c7b0 : (((rdOf ByteArray.empty l1 x12_1).size : Int) == 0) = true := beq_iff_eq.mpr c7
                have c7b1 : (((rdOf ByteArray.empty l1 x12_1).size : Int) != 0) = false := bne_eq_false_iff_eq.mpr c7
                clear c7
                obtain rfl := Option.some.inj H
                have p126 : 0 ≤ (x12_1 : Int) := of_decide_eq_true (by first | (with_reducible assumption) | assumption)
                have q126 : x12_1 < (l1.length : Int) := of_decide_eq_true (by first | (with_reducible assumption) | assumption)
                obtain ⟨ad126, e126, hx126_0⟩ := Kd.at_string HR1.out x12_1 p126 q126
                cases e126
                replace p126 := eq_true p126
                replace q126 := eq_true q126
                go_wp2
                go_ret
                exact ⟨by first | rfl | (simp; done) | (simp [*]; done), by repeat (first | exact Drawn0.refl _ | apply Drawn0.step)⟩
              · rw [if_neg c7] at H
                have c7b0 : (((rdOf ByteArray.empty l1 x12_1).size : Int) == 0) = false := beq_eq_false_iff_ne.mpr c7
                have c7b1 : (((rdOf ByteArray.empty l1 x12_1).size : Int) != 0) = true := bne_iff_ne.mpr c7
                have HC8 := Aside0.mk H
                clear H
                have p126 : 0 ≤ (x12_1 : Int) := of_decide_eq_true (by first | (with_reducible assumption) | assumption)
                have q126 : x12_1 < (l1.length : Int) := of_decide_eq_true (by first | (with_reducible assumption) | assumption)
                obtain ⟨ad126, e126, hx126_0⟩ := Kd.at_string HR1.out x12_1 p126 q126
                cases e126
                replace p126 := eq_true p126
                replace q126 := eq_true q126
                go_upto_region 9 with (fail)
                go_cut [31] (fun v31 wc => ∃ (kq : Nat) (x31_7 : Bool), v31 = .bool x31_7 ∧ Aside0 (server_isSubsetMatchTokenized.j1 kq l0 l1 x12_1 (rdOf ByteArray.empty l1 x12_1) l1 (l1.length : Int) x12_1 x31_7 = some r) ∧ Aside0 (kq ≤ k1) ∧ Drawn0 w wc)
                case first =>
                  have H := HC8.out
                  clear HC8
                  by_cases c9 : 0 < ((rdOf ByteArray.empty l1 x12_1).size : Int)
                  · rw [if_pos c9] at H
                    have c9b0 : decide (0 < ((rdOf ByteArray.empty l1 x12_1).size : Int)) = true := decide_eq_true c9
                    have c9b1 : decide (0 < (rdOf ByteArray.empty l1 x12_1).size) = true := decide_eq_true (by omega)
                    clear c9
                    (first | rw [c9b0] | (simp only [i64_w, i32_w]; rw [c9b0]) | skip)
                    by_cases c11 : (bt (rdOf ByteArray.empty l1 x12_1) 0) = 62
                    · rw [if_pos c11] at H
                      have c11b0 : ((bt (rdOf ByteArray.empty l1 x12_1) 0) == 62) = true := beq_iff_eq.mpr c11
                      have c11b1 : ((bt (rdOf ByteArray.empty l1 x12_1) 0) != 62) = false := bne_eq_false_iff_eq.mpr c11
                      clear c11
                      have H' := Aside0.mk H
                      clear H
                      have p10 : 0 ≤ (0 : Int) := (by omega)
                      have q10 : 0 < (rdOf ByteArray.empty l1 x12_1).size := (by have : (0 : Int) < ((rdOf ByteArray.empty l1 x12_1).size : Int) := of_decide_eq_true (by first | (with_reducible assumption) | assumption); omega)
                      have hx10 : ∀ h : 0 < (rdOf ByteArray.empty l1 x12_1).size, (((rdOf ByteArray.empty l1 x12_1)[0]'h).toNat : Int) = bt (rdOf ByteArray.empty l1 x12_1) 0 := bt_at (rdOf ByteArray.empty l1 x12_1) 0
                      clear p10
                      have qi10 : (0 < ((rdOf ByteArray.empty l1 x12_1).size : Int)) = True := eq_true (of_decide_eq_true (by first | (with_reducible assumption) | assumption))
                      replace q10 := eq_true q10
                      go_wp2
                      go_meet
                      case rel => exact ⟨_, ((((rdOf ByteArray.empty l1 x12_1).size : Int) == 1)), (by first | rfl | (simp; done) | (simp [*]; done)), H', ⟨by have := HK1.out; first | omega | exact Nat.le_refl _⟩, by repeat (first | exact Drawn0.refl _ | apply Drawn0.step)⟩
                    · rw [if_neg c11] at H
                      have c11b0 : ((bt (rdOf ByteArray.empty l1 x12_1) 0) == 62) = false := beq_eq_false_iff_ne.mpr c11
                      have c11b1 : ((bt (rdOf ByteArray.empty l1 x12_1) 0) != 62) = true := bne_iff_ne.mpr c11
                      have H' := Aside0.mk H
                      clear H
                      have p10 : 0 ≤ (0 : Int) := (by omega)
                      have q10 : 0 < (rdOf ByteArray.empty l1 x12_1).size := (by have : (0 : Int) < ((rdOf ByteArray.empty l1 x12_1).size : Int) := of_decide_eq_true (by first | (with_reducible assumption) | assumption); omega)
                      have hx10 : ∀ h : 0 < (rdOf ByteArray.empty l1 x12_1).size, (((rdOf ByteArray.empty l1 x12_1)[0]'h).toNat : Int) = bt (rdOf ByteArray.empty l1 x12_1) 0 := bt_at (rdOf ByteArray.empty l1 x12_1) 0
                      clear p10
                      have qi10 : (0 < ((rdOf ByteArray.empty l1 x12_1).size : Int)) = True := eq_true (of_decide_eq_true (by first | (with_reducible assumption) | assumption))
                      replace q10 := eq_true q10
                      go_wp2
                      go_meet
                      case rel => exact ⟨_, (false), (by first | rfl | (simp; done) | (simp [*]; done)), H', ⟨by have := HK1.out; first | omega | exact Nat.le_refl _⟩, by repeat (first | exact Drawn0.refl _ | apply Drawn0.step)⟩
                  · rw [if_neg c9] at H
                    exact absurd H (by simp)
                case rest =>
                  clear HC8
                  try clear c1
                  try clear p1
                  try clear q1
                  try clear hx1
                  try clear qi1
                  try clear p2
                  try clear c3
                  try clear c3b0
                  try clear c4
                  try clear c4b0
                  try clear c5
                  try clear c5b0
                  try clear c6
                  try clear c6b0
                  try clear c7
                  try clear c7b0
                  try clear c7b1
                  try clear c9
                  try clear c9b0
                  try clear c9b1
                  try clear p10
                  try clear q10
                  try clear hx10
                  try clear qi10
                  try clear c11
                  try clear c11b0
                  try clear c11b1
                  try clear hx126_0
                  try clear p10
                  try clear p126
                  try clear p2
                  try clear q10
                  try clear q126
                  obtain ⟨kq, x31_7, rfl, HA, HJ7, ⟨mc7, rfl⟩⟩ := hcut
                  cases kq with
                  | zero => exact absurd HA.out (by simp [server_isSubsetMatchTokenized.j1])
                  | succ kj7 =>
                    have H := HA.out
                    clear HA
                    simp only [server_isSubsetMatchTokenized.j1] at H
                    by_cases c12 : x31_7 = true
                    · subst c12
                      have H1 : (some true) = some r := by rw [if_pos rfl] at H; exact H
                      clear H
                      have H := H1
                      clear H1
                      obtain rfl := Option.some.inj H
                      go_wp2
                      go_ret
                      exact ⟨by first | rfl | (simp; done) | (simp [*]; done), by repeat (first | exact Drawn0.refl _ | apply Drawn0.step)⟩
                    · replace c12 := Bool.eq_false_iff.mpr c12
                      subst c12
                      have H1 : (if 0 ≤ x12_1 then (if x12_1 < (l0.length : Int) then (if ((rdOf ByteArray.empty l0 x12_1).size : Int) = 0 then (server_isSubsetMatchTokenized.j2 kj7 l0 l1 x12_1 (rdOf ByteArray.empty l1 x12_1) (rdOf ByteArray.empty l0 x12_1) l1 (l1.length : Int) x12_1 true) else (if 0 < ((rdOf ByteArray.empty l0 x12_1).size : Int) then (if (bt (rdOf ByteArray.empty l0 x12_1) 0) = 62 then (server_isSubsetMatchTokenized.j2 kj7 l0 l1 x12_1 (rdOf ByteArray.empty l1 x12_1) (rdOf ByteArray.empty l0 x12_1) l1 (l1.length : Int) x12_1 (((rdOf ByteArray.empty l0 x12_1).size : Int) == 1)) else (server_isSubsetMatchTokenized.j2 kj7 l0 l1 x12_1 (rdOf ByteArray.empty l1 x12_1) (rdOf ByteArray.empty l0 x12_1) l1 (l1.length : Int) x12_1 false)) else (none))) else (none)) else (none)) = some r := by rw [if_neg (show ¬ (false = true) by decide)] at H; exact H
                      clear H
                      have H := H1
                      clear H1
                      by_cases c13 : 0 ≤ x12_1
                      · rw [if_pos c13] at H
                        have c13b0 : decide (0 ≤ x12_1) = true := decide_eq_true c13
                        clear c13
                        by_cases c14 : x12_1 < (l0.length : Int)
                        · rw [if_pos c14] at H
                          have c14b0 : decide (x12_1 < (l0.length : Int)) = true := decide_eq_true c14
                          clear c14
                          have HC15 := Aside0.mk H
                          clear H
                          have p127 : 0 ≤ (x12_1 : Int) := of_decide_eq_true (by first | (with_reducible assumption) | assumption)
                          have q127 : x12_1 < (l0.length : Int) := of_decide_eq_true (by first | (with_reducible assumption) | assumption)
                          obtain ⟨ad127, e127, hx127_0⟩ := Kd.at_string HR0.out x12_1 p127 q127
                          cases e127
                          replace p127 := eq_true p127
                          replace q127 := eq_true q127
                          go_upto_region 13 with (fail)
                          go_cut [48] (fun v48 wc => ∃ (kq : Nat) (x48_14 : Bool), v48 = .bool x48_14 ∧ Aside0 (server_isSubsetMatchTokenized.j2 kq l0 l1 x12_1 (rdOf ByteArray.empty l1 x12_1) (rdOf ByteArray.empty l0 x12_1) l1 (l1.length : Int) x12_1 x48_14 = some r) ∧ Aside0 (kq ≤ kj7) ∧ Drawn0 w wc)
                          case first =>
                            have H := HC15.out
                            clear HC15
                            by_cases c16 : ((rdOf ByteArray.empty l0 x12_1).size : Int) = 0
                            · rw [if_pos c16] at H
                              have c16b0 : (((rdOf ByteArray.empty l0 x12_1).size : Int) == 0) = true := beq_iff_eq.mpr c16
                              have c16b1 : (((rdOf ByteArray.empty l0 x12_1).size : Int) != 0) = false := bne_eq_false_iff_eq.mpr c16
                              clear c16
                              (first | rw [c16b0] | (simp only [i64_w, i32_w]; rw [c16b0]) | skip)
                              have H' := Aside0.mk H
                              clear H
                              go_wp2
                              go_meet
                              case rel => exact ⟨_, (true), (by first | rfl | (simp; done) | (simp [*]; done)), H', ⟨by have := HK1.out; have := HJ7.out; first | omega | exact Nat.le_refl _⟩, by repeat (first | exact Drawn0.refl _ | apply Drawn0.step)⟩
                            · rw [if_neg c16] at H
                              have c16b0 : (((rdOf ByteArray.empty l0 x12_1).size : Int) == 0) = false := beq_eq_false_iff_ne.mpr c16
                              have c16b1 : (((rdOf ByteArray.empty l0 x12_1).size : Int) != 0) = true := bne_iff_ne.mpr c16
                              (first | rw [c16b0] | (simp only [i64_w, i32_w]; rw [c16b0]) | skip)
                              by_cases c17 : 0 < ((rdOf ByteArray.empty l0 x12_1).size : Int)
                              · rw [if_pos c17] at H
                                have c17b0 : decide (0 < ((rdOf ByteArray.empty l0 x12_1).size : Int)) = true := decide_eq_true c17
                                have c17b1 : decide (0 < (rdOf ByteArray.empty l0 x12_1).size) = true := decide_eq_true (by omega)
                                clear c17
                                by_cases c19 : (bt (rdOf ByteArray.empty l0 x12_1) 0) = 62
                                · rw [if_pos c19] at H
                                  have c19b0 : ((bt (rdOf ByteArray.empty l0 x12_1) 0) == 62) = true := beq_iff_eq.mpr c19
                                  have c19b1 : ((bt (rdOf ByteArray.empty l0 x12_1) 0) != 62) = false := bne_eq_false_iff_eq.mpr c19
                                  clear c19
                                  have H' := Aside0.mk H
                                  clear H
                                  have p18 : 0 ≤ (0 : Int) := (by omega)
                                  have q18 : 0 < (rdOf ByteArray.empty l0 x12_1).size := (by have : (0 : Int) < ((rdOf ByteArray.empty l0 x12_1).size : Int) := of_decide_eq_true (by first | (with_reducible assumption) | assumption); omega)
                                  have hx18 : ∀ h : 0 < (rdOf ByteArray.empty l0 x12_1).size, (((rdOf ByteArray.empty l0 x12_1)[0]'h).toNat : Int) = bt (rdOf ByteArray.empty l0 x12_1) 0 := bt_at (rdOf ByteArray.empty l0 x12_1) 0
                                  clear p18
                                  have qi18 : (0 < ((rdOf ByteArray.empty l0 x12_1).size : Int)) = True := eq_true (of_decide_eq_true (by first | (with_reducible assumption) | assumption))
                                  replace q18 := eq_true q18
                                  go_wp2
                                  go_meet
                                  case rel => exact ⟨_, ((((rdOf ByteArray.empty l0 x12_1).size : Int) == 1)), (by first | rfl | (simp; done) | (simp [*]; done)), H', ⟨by have := HK1.out; have := HJ7.out; first | omega | exact Nat.le_refl _⟩, by repeat (first | exact Drawn0.refl _ | apply Drawn0.step)⟩
                                · rw [if_neg c19] at H
                                  have c19b0 : ((bt (rdOf ByteArray.empty l0 x12_1) 0) == 62) = false := beq_eq_false_iff_ne.mpr c19
                                  have c19b1 : ((bt (rdOf ByteArray.empty l0 x12_1) 0) != 62) = true := bne_iff_ne.mpr c19
                                  have H' := Aside0.mk H
                                  clear H
                                  have p18 : 0 ≤ (0 : Int) := (by omega)
                                  have q18 : 0 < (rdOf ByteArray.empty l0 x12_1).size := (by have : (0 : Int) < ((rdOf ByteArray.empty l0 x12_1).size : Int) := of_decide_eq_true (by first | (with_reducible assumption) | assumption); omega)
                                  have hx18 : ∀ h : 0 < (rdOf ByteArray.empty l0 x12_1).size, (((rdOf ByteArray.empty l0 x12_1)[0]'h).toNat : Int) = bt (rdOf ByteArray.empty l0 x12_1) 0 := bt_at (rdOf ByteArray.empty l0 x12_1) 0
                                  clear p18
                                  have qi18 : (0 < ((rdOf ByteArray.empty l0 x12_1).size : Int)) = True := eq_true (of_decide_eq_true (by first | (with_reducible assumption) | assumption))
                                  replace q18 := eq_true q18
                                  go_wp2
                                  go_meet
                                  case rel => exact ⟨_, (false), (by first | rfl | (simp; done) | (simp [*]; done)), H', ⟨by have := HK1.out; have := HJ7.out; first | omega | exact Nat.le_refl _⟩, by repeat (first | exact Drawn0.refl _ | apply Drawn0.step)⟩
                              · rw [if_neg c17] at H
                                exact absurd H (by simp)
                          case rest =>
                            clear HC15
                            try clear c1
                            try clear p1
                            try clear q1
                            try clear hx1
                            try clear qi1
                            try clear p2
                            try clear c3
                            try clear c3b0
                            try clear c4
                            try clear c4b0
                            try clear c5
                            try clear c5b0
                            try clear c6
                            try clear c6b0
                            try clear c7
                            try clear c7b0
                            try clear c7b1
                            try clear c9
                            try clear c9b0
                            try clear c9b1
                            try clear p10
                            try clear q10
                            try clear hx10
                            try clear qi10
                            try clear c11
                            try clear c11b0
                            try clear c11b1
                            try clear c12
                            try clear p12
                            try clear q12
                            try clear hx12
                            try clear c13
                            try clear c13b0
                            try clear c14
                            try clear c14b0
                            try clear c16
                            try clear c16b0
                            try clear c16b1
                            try clear c17
                            try clear c17b0
                            try clear c17b1
                            try clear p18
                            try clear q18
                            try clear hx18
                            try clear qi18
                            try clear c19
                            try clear c19b0
                            try clear c19b1
                            try clear hx126_0
                            try clear hx127_0
                            try clear p1
                            try clear p10
                            try clear p126
                            try clear p127
                            try clear p18
                            try clear p2
                            try clear q1
                            try clear q10
                            try clear q126
                            try clear q127
                            try clear q18
                            obtain ⟨kq, x48_14, rfl, HA, HJ14, ⟨mc14, rfl⟩⟩ := hcut
                            cases kq with
                            | zero => exact absurd HA.out (by simp [server_isSubsetMatchTokenized.j2])
                            | succ kj14 =>
                              have H := HA.out
                              clear HA
                              simp only [server_isSubsetMatchTokenized.j2] at H
                              by_cases c20 : x48_14 = true
                              · subst c20
                                have H1 : (some false) = some r := by rw [if_pos rfl] at H; exact H
                                clear H
                                have H := H1
                                clear H1
                                obtain rfl := Option.some.inj H
                                go_wp2
                                go_ret
                                exact ⟨by first | rfl | (simp; done) | (simp [*]; done), by repeat (first | exact Drawn0.refl _ | apply Drawn0.step)⟩
                              · replace c20 := Bool.eq_false_iff.mpr c20
                                subst c20
                                have H1 : (if 0 < ((rdOf ByteArray.empty l0 x12_1).size : Int) then (if (bt (rdOf ByteArray.empty l0 x12_1) 0) = 42 then (server_isSubsetMatchTokenized.j3 kj14 l0 l1 x12_1 (rdOf ByteArray.empty l1 x12_1) (rdOf ByteArray.empty l0 x12_1) l1 (l1.length : Int) x12_1 (((rdOf ByteArray.empty l0 x12_1).size : Int) == 1)) else (server_isSubsetMatchTokenized.j3 kj14 l0 l1 x12_1 (rdOf ByteArray.empty l1 x12_1) (rdOf ByteArray.empty l0 x12_1) l1 (l1.length : Int) x12_1 false)) else (none)) = some r := by rw [if_neg (show ¬ (false = true) by decide)] at H; exact H
                                clear H
                                have H := H1
                                clear H1
                                have HC21 := Aside0.mk H
                                clear H
                                go_upto_region 15 with (fail)
                                go_cut [56] (fun v56 wc => ∃ (kq : Nat) (x56_20 : Bool), v56 = .bool x56_20 ∧ Aside0 (server_isSubsetMatchTokenized.j3 kq l0 l1 x12_1 (rdOf ByteArray.empty l1 x12_1) (rdOf ByteArray.empty l0 x12_1) l1 (l1.length : Int) x12_1 x56_20 = some r) ∧ Aside0 (kq ≤ kj14) ∧ Drawn0 w wc)
                                case first =>
                                  have H := HC21.out
                                  clear HC21
                                  by_cases c22 : 0 < ((rdOf ByteArray.empty l0 x12_1).size : Int)
                                  · rw [if_pos c22] at H
                                    have c22b0 : decide (0 < ((rdOf ByteArray.empty l0 x12_1).size : Int)) = true := decide_eq_true c22
                                    have c22b1 : decide (0 < (rdOf ByteArray.empty l0 x12_1).size) = true := decide_eq_true (by omega)
                                    clear c22
                                    (first | rw [c22b0] | (simp only [i64_w, i32_w]; rw [c22b0]) | skip)
                                    by_cases c24 : (bt (rdOf ByteArray.empty l0 x12_1) 0) = 42
                                    · rw [if_pos c24] at H
                                      have c24b0 : ((bt (rdOf ByteArray.empty l0 x12_1) 0) == 42) = true := beq_iff_eq.mpr c24
                                      have c24b1 : ((bt (rdOf ByteArray.empty l0 x12_1) 0) != 42) = false := bne_eq_false_iff_eq.mpr c24
                                      clear c24
                                      have H' := Aside0.mk H
                                      clear H
                                      have p23 : 0 ≤ (0 : Int) := (by omega)
                                      have q23 : 0 < (rdOf ByteArray.empty l0 x12_1).size := (by have : (0 : Int) < ((rdOf ByteArray.empty l0 x12_1).size : Int) := of_decide_eq_true (by first | (with_reducible assumption) | assumption); omega)
                                      have hx23 : ∀ h : 0 < (rdOf ByteArray.empty l0 x12_1).size, (((rdOf ByteArray.empty l0 x12_1)[0]'h).toNat : Int) = bt (rdOf ByteArray.empty l0 x12_1) 0 := bt_at (rdOf ByteArray.empty l0 x12_1) 0
                                      clear p23
                                      have qi23 : (0 < ((rdOf ByteArray.empty l0 x12_1).size : Int)) = True := eq_true (of_decide_eq_true (by first | (with_reducible assumption) | assumption))
                                      replace q23 := eq_true q23
                                      go_wp2
                                      go_meet
                                      case rel => exact ⟨_, ((((rdOf ByteArray.empty l0 x12_1).size : Int) == 1)), (by first | rfl | (simp; done) | (simp [*]; done)), H', ⟨by have := HK1.out; have := HJ7.out; have := HJ14.out; first | omega | exact Nat.le_refl _⟩, by repeat (first | exact Drawn0.refl _ | apply Drawn0.step)⟩
                                    · rw [if_neg c24] at H
                                      have c24b0 : ((bt (rdOf ByteArray.empty l0 x12_1) 0) == 42) = false := beq_eq_false_iff_ne.mpr c24
                                      have c24b1 : ((bt (rdOf ByteArray.empty l0 x12_1) 0) != 42) = true := bne_iff_ne.mpr c24
                                      have H' := Aside0.mk H
                                      clear H
                                      have p23 : 0 ≤ (0 : Int) := (by omega)
                                      have q23 : 0 < (rdOf ByteArray.empty l0 x12_1).size := (by have : (0 : Int) < ((rdOf ByteArray.empty l0 x12_1).size : Int) := of_decide_eq_true (by first | (with_reducible assumption) | assumption); omega)
                                      have hx23 : ∀ h : 0 < (rdOf ByteArray.empty l0 x12_1).size, (((rdOf ByteArray.empty l0 x12_1)[0]'h).toNat : Int) = bt (rdOf ByteArray.empty l0 x12_1) 0 := bt_at (rdOf ByteArray.empty l0 x12_1) 0
                                      clear p23
                                      have qi23 : (0 < ((rdOf ByteArray.empty l0 x12_1).size : Int)) = True := eq_true (of_decide_eq_true (by first | (with_reducible assumption) | assumption))
                                      replace q23 := eq_true q23
                                      go_wp2
                                      go_meet
                                      case rel => exact ⟨_, (false), (by first | rfl | (simp; done) | (simp [*]; done)), H', ⟨by have := HK1.out; have := HJ7.out; have := HJ14.out; first | omega | exact Nat.le_refl _⟩, by repeat (first | exact Drawn0.refl _ | apply Drawn0.step)⟩
                                  · rw [if_neg c22] at H
                                    exact absurd H (by simp)
                                case rest =>
                                  clear HC21
                                  try clear c1
                                  try clear p1
                                  try clear q1
                                  try clear hx1
                                  try clear qi1
                                  try clear c2
                                  try clear p2
                                  try clear q2
                                  try clear hx2
                                  try clear qi2
                                  try clear c3
                                  try clear c3b0
                                  try clear c4
                                  try clear c4b0
                                  try clear c5
                                  try clear c5b0
                                  try clear c6
                                  try clear c6b0
                                  try clear c7
                                  try clear c7b0
                                  try clear c7b1
                                  try clear c9
                                  try clear c9b0
                                  try clear c9b1
                                  try clear p10
                                  try clear q10
                                  try clear hx10
                                  try clear qi10
                                  try clear c11
                                  try clear c11b0
                                  try clear c11b1
                                  try clear c12
                                  try clear p12
                                  try clear q12
                                  try clear hx12
                                  try clear c13
                                  try clear c13b0
                                  try clear c14
                                  try clear c14b0
                                  try clear c16
                                  try clear c16b0
                                  try clear c16b1
                                  try clear c17
                                  try clear c17b0
                                  try clear c17b1
                                  try clear p18
                                  try clear q18
                                  try clear hx18
                                  try clear qi18
                                  try clear c19
                                  try clear c19b0
                                  try clear c19b1
                                  try clear c20
                                  try clear c22
                                  try clear c22b0
                                  try clear c22b1
                                  try clear p23
                                  try clear q23
                                  try clear hx23
                                  try clear qi23
                                  try clear c24
                                  try clear c24b0
                                  try clear c24b1
                                  try clear hx126_0
                                  try clear hx127_0
                                  try clear p1
                                  try clear p10
                                  try clear p12
                                  try clear p126
                                  try clear p127
                                  try clear p18
                                  try clear p2
                                  try clear p23
                                  try clear q1
                                  try clear q10
                                  try clear q12
                                  try clear q126
                                  try clear q127
                                  try clear q18
                                  try clear q23
                                  obtain ⟨kq, x56_20, rfl, HA, HJ20, ⟨mc20, rfl⟩⟩ := hcut
                                  cases kq with
                                  | zero => exact absurd HA.out (by simp [server_isSubsetMatchTokenized.j3])
                                  | succ kj20 =>
                                    have H := HA.out
                                    clear HA
                                    simp only [server_isSubsetMatchTokenized.j3] at H
                                    by_cases c25 : x56_20 = true
                                    · subst c25
                                      have H1 : (if 0 < ((rdOf ByteArray.empty l1 x12_1).size : Int) then (if (bt (rdOf ByteArray.empty l1 x12_1) 0) = 42 then (server_isSubsetMatchTokenized.j4 kj20 l0 l1 x12_1 (((rdOf ByteArray.empty l1 x12_1).size : Int) == 1) l1 (l1.length : Int) x12_1) else (server_isSubsetMatchTokenized.j4 kj20 l0 l1 x12_1 false l1 (l1.length : Int) x12_1)) else (none)) = some r := by rw [if_pos rfl] at H; exact H
                                      clear H
                                      have H := H1
                                      clear H1
                                      have HC26 := Aside0.mk H
                                      clear H
                                      go_upto_region 16 with (fail)
                                      go_cut [9] (fun v9 wc => ∃ (kq : Nat) (x9_25 : Bool), v9 = .bool x9_25 ∧ Aside0 (server_isSubsetMatchTokenized.j4 kq l0 l1 x12_1 x9_25 l1 (l1.length : Int) x12_1 = some r) ∧ Aside0 (kq ≤ kj20) ∧ Drawn0 w wc)
                                      case first =>
                                        have H := HC26.out
                                        clear HC26
                                        by_cases c27 : 0 < ((rdOf ByteArray.empty l1 x12_1).size : Int)
                                        · rw [if_pos c27] at H
                                          have c27b0 : decide (0 < ((rdOf ByteArray.empty l1 x12_1).size : Int)) = true := decide_eq_true c27
                                          have c27b1 : decide (0 < (rdOf ByteArray.empty l1 x12_1).size) = true := decide_eq_true (by omega)
                                          clear c27
                                          (first | rw [c27b0] | (simp only [i64_w, i32_w]; rw [c27b0]) | skip)
                                          by_cases c29 : (bt (rdOf ByteArray.empty l1 x12_1) 0) = 42
                                          · rw [if_pos c29] at H
                                            have c29b0 : ((bt (rdOf ByteArray.empty l1 x12_1) 0) == 42) = true := beq_iff_eq.mpr c29
                                            have c29b1 : ((bt (rdOf ByteArray.empty l1 x12_1) 0) != 42) = false := bne_eq_false_iff_eq.mpr c29
                                            clear c29
                                            have H' := Aside0.mk H
                                            clear H
                                            have p28 : 0 ≤ (0 : Int) := (by omega)
                                            have q28 : 0 < (rdOf ByteArray.empty l1 x12_1).size := (by have : (0 : Int) < ((rdOf ByteArray.empty l1 x12_1).size : Int) := of_decide_eq_true (by first | (with_reducible assumption) | assumption); omega)
                                            have hx28 : ∀ h : 0 < (rdOf ByteArray.empty l1 x12_1).size, (((rdOf ByteArray.empty l1 x12_1)[0]'h).toNat : Int) = bt (rdOf ByteArray.empty l1 x12_1) 0 := bt_at (rdOf ByteArray.empty l1 x12_1) 0
                                            clear p28
                                            have qi28 : (0 < ((rdOf ByteArray.empty l1 x12_1).size : Int)) = True := eq_true (of_decide_eq_true (by first | (with_reducible assumption) | assumption))
                                            replace q28 := eq_true q28
                                            go_wp2
                                            go_meet
                                            case rel => exact ⟨_, ((((rdOf ByteArray.empty l1 x12_1).size : Int) == 1)), (by first | rfl | (simp; done) | (simp [*]; done)), H', ⟨by have := HK1.out; have := HJ7.out; have := HJ14.out; have := HJ20.out; first | omega | exact Nat.le_refl _⟩, by repeat (first | exact Drawn0.refl _ | apply Drawn0.step)⟩
                                          · rw [if_neg c29] at H
                                            have c29b0 : ((bt (rdOf ByteArray.empty l1 x12_1) 0) == 42) = false := beq_eq_false_iff_ne.mpr c29
                                            have c29b1 : ((bt (rdOf ByteArray.empty l1 x12_1) 0) != 42) = true := bne_iff_ne.mpr c29
                                            have H' := Aside0.mk H
                                            clear H
                                            have p28 : 0 ≤ (0 : Int) := (by omega)
                                            have q28 : 0 < (rdOf ByteArray.empty l1 x12_1).size := (by have : (0 : Int) < ((rdOf ByteArray.empty l1 x12_1).size : Int) := of_decide_eq_true (by first | (with_reducible assumption) | assumption); omega)
                                            have hx28 : ∀ h : 0 < (rdOf ByteArray.empty l1 x12_1).size, (((rdOf ByteArray.empty l1 x12_1)[0]'h).toNat : Int) = bt (rdOf ByteArray.empty l1 x12_1) 0 := bt_at (rdOf ByteArray.empty l1 x12_1) 0
                                            clear p28
                                            have qi28 : (0 < ((rdOf ByteArray.empty l1 x12_1).size : Int)) = True := eq_true (of_decide_eq_true (by first | (with_reducible assumption) | assumption))
                                            replace q28 := eq_true q28
                                            go_wp2
                                            go_meet
                                            case rel => exact ⟨_, (false), (by first | rfl | (simp; done) | (simp [*]; done)), H', ⟨by have := HK1.out; have := HJ7.out; have := HJ14.out; have := HJ20.out; first | omega | exact Nat.le_refl _⟩, by repeat (first | exact Drawn0.refl _ | apply Drawn0.step)⟩
                                        · rw [if_neg c27] at H
                                          exact absurd H (by simp)
                                      case rest =>
                                        clear HC26
                                        try clear c1
                                        try clear p1
                                        try clear q1
                                        try clear hx1
                                        try clear qi1
                                        try clear c2
                                        try clear p2
                                        try clear q2
                                        try clear hx2
                                        try clear qi2
                                        try clear c3
                                        try clear c3b0
                                        try clear c4
                                        try clear c4b0
                                        try clear c5
                                        try clear c5b0
                                        try clear c6
                                        try clear c6b0
                                        try clear c7
                                        try clear c7b0
                                        try clear c7b1
                                        try clear c9
                                        try clear c9b0
                                        try clear c9b1
                                        try clear p10
                                        try clear q10
                                        try clear hx10
                                        try clear qi10
                                        try clear c11
                                        try clear c11b0
                                        try clear c11b1
                                        try clear c12
                                        try clear p12
                                        try clear q12
                                        try clear hx12
                                        try clear c13
                                        try clear c13b0
                                        try clear c14
                                        try clear c14b0
                                        try clear c16
                                        try clear c16b0
                                        try clear c16b1
                                        try clear c17
                                        try clear c17b0
                                        try clear c17b1
                                        try clear p18
                                        try clear q18
                                        try clear hx18
                                        try clear qi18
                                        try clear c19
                                        try clear c19b0
                                        try clear c19b1
                                        try clear c20
                                        try clear c22
                                        try clear c22b0
                                        try clear c22b1
                                        try clear p23
                                        try clear q23
                                        try clear hx23
                                        try clear qi23
                                        try clear c24
                                        try clear c24b0
                                        try clear c24b1
                                        try clear c25
                                        try clear c27
                                        try clear c27b0
                                        try clear c27b1
                                        try clear p28
                                        try clear q28
                                        try clear hx28
                                        try clear qi28
                                        try clear c29
                                        try clear c29b0
                                        try clear c29b1
                                        try clear hx126_0
                                        try clear hx127_0
                                        try clear p1
                                        try clear p10
                                        try clear p12
                                        try clear p126
                                        try clear p127
                                        try clear p18
                                        try clear p2
                                        try clear p23
                                        try clear p28
                                        try clear q1
                                        try clear q10
                                        try clear q12
                                        try clear q126
                                        try clear q127
                                        try clear q18
                                        try clear q2
                                        try clear q23
                                        try clear q28
                                        obtain ⟨kq, x9_25, rfl, HA, HJ25, ⟨mc25, rfl⟩⟩ := hcut
                                        cases kq with
                                        | zero => exact absurd HA.out (by simp [server_isSubsetMatchTokenized.j4])
                                        | succ kj25 =>
                                          have H := HA.out
                                          clear HA
                                          simp only [server_isSubsetMatchTokenized.j4] at H
                                          by_cases c30 : x9_25 = true
                                          · subst c30
                                            have H1 : (if x12_1 ≥ (l1.length : Int) then (some true) else (server_isSubsetMatchTokenized.l0 kj25 l0 l1 l1 (l1.length : Int) (wrap64 (x12_1 + 1)))) = some r := by rw [if_pos rfl] at H; exact H
                                            clear H
                                            have H := H1
                                            clear H1
                                            by_cases c31 : x12_1 ≥ (l1.length : Int)
                                            · rw [if_pos c31] at H
                                              have c31b0 : decide ((l1.length : Int) ≤ x12_1) = true := decide_eq_true c31
                                              clear c31
                                              obtain rfl := Option.some.inj H
                                              go_wp2
                                              go_ret
                                              exact ⟨by first | rfl | (simp; done) | (simp [*]; done), by repeat (first | exact Drawn0.refl _ | apply Drawn0.step)⟩
                                            · rw [if_neg c31] at H
                                              have c31b0 : decide ((l1.length : Int) ≤ x12_1) = false := decide_eq_false c31
                                              clear c31
                                              have H' := Aside0.mk H
                                              clear H
                                              go_wp2
                                              go_roundg kj25
                                              case measure => have := HK1.out; have := HJ7.out; have := HJ14.out; have := HJ20.out; have := HJ25.out; omega
                                              case rel => exact ⟨(wrap64 (x12_1 + 1)), (by first | rfl | (simp; done) | (simp [*]; done)), H', ⟨by have := HK1.out; have := HJ7.out; have := HJ14.out; have := HJ20.out; have := HJ25.out; omega⟩, by repeat (first | exact Drawn0.refl _ | apply Drawn0.step)⟩
                                          · replace c30 := Bool.eq_false_iff.mpr c30
                                            subst c30
                                            have H1 : (some false) = some r := by rw [if_neg (show ¬ (false = true) by decide)] at H; exact H
                                            clear H
                                            have H := H1
                                            clear H1
                                            obtain rfl := Option.some.inj H
                                            go_wp2
                                            go_ret
                                            exact ⟨by first | rfl | (simp; done) | (simp [*]; done), by repeat (first | exact Drawn0.refl _ | apply Drawn0.step)⟩
                                    · replace c25 := Bool.eq_false_iff.mpr c25
                                      subst c25
                                      have H1 : (if 0 < ((rdOf ByteArray.empty l1 x12_1).size : Int) then (if (bt (rdOf ByteArray.empty l1 x12_1) 0) = 42 then (server_isSubsetMatchTokenized.l0 kj20 l0 l1 l1 (l1.length : Int) (wrap64 (x12_1 + 1))) else ((strings_Compare.f (rdOf ByteArray.empty l0 x12_1) (rdOf ByteArray.empty l1 x12_1)).bind fun t128 => (if t128 = 0 then (server_isSubsetMatchTokenized.l0 kj20 l0 l1 l1 (l1.length : Int) (wrap64 (x12_1 + 1))) else (some false)))) else (none)) = some r := by rw [if_neg (show ¬ (false = true) by decide)] at H; exact H
                                      clear H
                                      have H := H1
                                      clear H1
                                      by_cases c32 : 0 < ((rdOf ByteArray.empty l1 x12_1).size : Int)
                                      · rw [if_pos c32] at H
                                        have c32b0 : decide (0 < ((rdOf ByteArray.empty l1 x12_1).size : Int)) = true := decide_eq_true c32
                                        have c32b1 : decide (0 < (rdOf ByteArray.empty l1 x12_1).size) = true := decide_eq_true (by omega)
                                        clear c32
                                        by_cases c34 : (bt (rdOf ByteArray.empty l1 x12_1) 0) = 42
                                        · rw [if_pos c34] at H
                                          have c34b0 : ((bt (rdOf ByteArray.empty l1 x12_1) 0) == 42) = true := beq_iff_eq.mpr c34
                                          have c34b1 : ((bt (rdOf ByteArray.empty l1 x12_1) 0) != 42) = false := bne_eq_false_iff_eq.mpr c34
                                          clear c34
                                          have H' := Aside0.mk H
                                          clear H
                                          have p33 : 0 ≤ (0 : Int) := (by omega)
                                          have q33 : 0 < (rdOf ByteArray.empty l1 x12_1).size := (by have : (0 : Int) < ((rdOf ByteArray.empty l1 x12_1).size : Int) := of_decide_eq_true (by first | (with_reducible assumption) | assumption); omega)
                                          have hx33 : ∀ h : 0 < (rdOf ByteArray.empty l1 x12_1).size, (((rdOf ByteArray.empty l1 x12_1)[0]'h).toNat : Int) = bt (rdOf ByteArray.empty l1 x12_1) 0 := bt_at (rdOf ByteArray.empty l1 x12_1) 0
                                          clear p33
                                          have qi33 : (0 < ((rdOf ByteArray.empty l1 x12_1).size : Int)) = True := eq_true (of_decide_eq_true (by first | (with_reducible assumption) | assumption))
                                          replace q33 := eq_true q33
                                          go_wp2
                                          go_roundg kj20
                                          case measure => have := HK1.out; have := HJ7.out; have := HJ14.out; have := HJ20.out; omega
                                          case rel => exact ⟨(wrap64 (x12_1 + 1)), (by first | rfl | (simp; done) | (simp [*]; done)), H', ⟨by have := HK1.out; have := HJ7.out; have := HJ14.out; have := HJ20.out; omega⟩, by repeat (first | exact Drawn0.refl _ | apply Drawn0.step)⟩
                                        · rw [if_neg c34] at H
                                          have c34b0 : ((bt (rdOf ByteArray.empty l1 x12_1) 0) == 42) = false := beq_eq_false_iff_ne.mpr c34
                                          have c34b1 : ((bt (rdOf ByteArray.empty l1 x12_1) 0) != 42) = true := bne_iff_ne.mpr c34
                                          replace H := Option.bind_eq_some_iff.mp H
                                          obtain ⟨t128, A350, H⟩ := H
                                          replace H : (if t128 = 0 then (server_isSubsetMatchTokenized.l0 kj20 l0 l1 l1 (l1.length : Int) (wrap64 (x12_1 + 1))) else (some false)) = some r := H
                                          have A35 := Aside0.mk A350
                                          clear A350
                                          by_cases c36 : t128 = 0
                                          · rw [if_pos c36] at H
                                            have c36b0 : (t128 == 0) = true := beq_iff_eq.mpr c36
                                            have c36b1 : (t128 != 0) = false := bne_eq_false_iff_eq.mpr c36
                                            clear c36
                                            have H' := Aside0.mk H
                                            clear H
                                            have p33 : 0 ≤ (0 : Int) := (by omega)
                                            have q33 : 0 < (rdOf ByteArray.empty l1 x12_1).size := (by have : (0 : Int) < ((rdOf ByteArray.empty l1 x12_1).size : Int) := of_decide_eq_true (by first | (with_reducible assumption) | assumption); omega)
                                            have hx33 : ∀ h : 0 < (rdOf ByteArray.empty l1 x12_1).size, (((rdOf ByteArray.empty l1 x12_1)[0]'h).toNat : Int) = bt (rdOf ByteArray.empty l1 x12_1) 0 := bt_at (rdOf ByteArray.empty l1 x12_1) 0
                                            clear p33
                                            have qi33 : (0 < ((rdOf ByteArray.empty l1 x12_1).size : Int)) = True := eq_true (of_decide_eq_true (by first | (with_reducible assumption) | assumption))
                                            replace q33 := eq_true q33
                                            go_wp2_with (first | (go_at_call 71; (with_reducible refine (strings_Compare.calls (rdOf ByteArray.empty l0 x12_1) (rdOf ByteArray.empty l1 x12_1) t128 _ A35.out).mono ?_); rintro e w' ⟨rfl, ⟨nd, rfl⟩⟩))
                                            go_roundg kj20
                                            case measure => have := HK1.out; have := HJ7.out; have := HJ14.out; have := HJ20.out; omega
                                            case rel => exact ⟨(wrap64 (x12_1 + 1)), (by first | rfl | (simp; done) | (simp [*]; done)), H', ⟨by have := HK1.out; have := HJ7.out; have := HJ14.out; have := HJ20.out; omega⟩, by repeat (first | exact Drawn0.refl _ | apply Drawn0.step)⟩
                                          · rw [if_neg c36] at H
                                            have c36b0 : (t128 == 0) = false := beq_eq_false_iff_ne.mpr c36
                                            have c36b1 : (t128 != 0) = true := bne_iff_ne.mpr c36
                                            obtain rfl := Option.some.inj H
                                            have p33 : 0 ≤ (0 : Int) := (by omega)
                                            have q33 : 0 < (rdOf ByteArray.empty l1 x12_1).size := (by have : (0 : Int) < ((rdOf ByteArray.empty l1 x12_1).size : Int) := of_decide_eq_true (by first | (with_reducible assumption) | assumption); omega)
                                            have hx33 : ∀ h : 0 < (rdOf ByteArray.empty l1 x12_1).size, (((rdOf ByteArray.empty l1 x12_1)[0]'h).toNat : Int) = bt (rdOf ByteArray.empty l1 x12_1) 0 := bt_at (rdOf ByteArray.empty l1 x12_1) 0
                                            clear p33
                                            have qi33 : (0 < ((rdOf ByteArray.empty l1 x12_1).size : Int)) = True := eq_true (of_decide_eq_true (by first | (with_reducible assumption) | assumption))
                                            replace q33 := eq_true q33
                                            go_wp2_with (first | (go_at_call 71; (with_reducible refine (strings_Compare.calls (rdOf ByteArray.empty l0 x12_1) (rdOf ByteArray.empty l1 x12_1) t128 _ A35.out).mono ?_); rintro e w' ⟨rfl, ⟨nd, rfl⟩⟩))
                                            go_ret
                                            exact ⟨by first | rfl | (simp; done) | (simp [*]; done), by repeat (first | exact Drawn0.refl _ | apply Drawn0.step)⟩
                                      · rw [if_neg c32] at H
                                        exact absurd H (by simp)
                        · rw [if_neg c14] at H
                          exact absurd H (by simp)
                      · rw [if_neg c13] at H
                        exact absurd H (by simp)
          · rw [if_neg c5] at H
            exact absurd H (by simp)
        · rw [if_neg c4] at H
          exact absurd H (by simp)
      · rw [if_neg c3] at H
        have c3b0 : decide (x12_1 < (l1.length : Int)) = false := decide_eq_false c3
        clear c3
        obtain rfl := Option.some.inj H
        go_wp2
        go_ret
        exact ⟨by first | rfl | (simp; done) | (simp [*]; done), by repeat (first | exact Drawn0.refl _ | apply Drawn0.step)⟩

end Go.Proofs.Ytaobajfdnidkfaa.PFnCollide
