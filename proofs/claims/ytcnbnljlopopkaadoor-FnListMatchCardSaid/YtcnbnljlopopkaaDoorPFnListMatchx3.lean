-- Written by hprint.py (this session's program, over the kit's printing program, with this session's own contracts in it). Not trusted: Lean checks it.
import Derived.Test.YtcnbnljlopopkaaDoorPFnListMatchx0
namespace Go.Proofs.YtcnbnljlopopkaaDoor.PFnListMatch
open Go.RowKit Go.Proofs.YtcnbnljlopopkaaDoorW.PrintWords Go.Proofs.YtcnbnljlopopkaaDoorW.PrintLast Go.Proofs.YtcnbnljlopopkaaDoorW.PrintMore
attribute [local go_sem] max2_int min2_int max_two min_two max_three min_three max_four min_four   -- for this text's walks alone
set_option linter.unusedVariables false
set_option linter.unusedSimpArgs false

/-! ### spec_Formed: function 45 -/
def spec_Formed.l0 : Nat → List ByteArray → Int → Option (Bool)
 | 0, _, _ => none
 | k + 1, x0, x3 => if x3 < (x0.length : Int) then (if 0 ≤ x3 then (if (rdOf ByteArray.empty x0 x3).toList = ([] : List UInt8) then (some false) else (if (rdOf ByteArray.empty x0 x3).toList = ([62] : List UInt8) then (if (wrap64 (x3 + 1)) < (x0.length : Int) then (some false) else (spec_Formed.l0 k x0 (wrap64 (x3 + 1)))) else (spec_Formed.l0 k x0 (wrap64 (x3 + 1))))) else (none)) else (some true)
def spec_Formed.f (k : Nat) (l0 : List ByteArray) : Option (Bool) := spec_Formed.l0 k l0 0
theorem spec_Formed.mono_l : ∀ k, (∀ y0 y1, LeO (spec_Formed.l0 k y0 y1) (spec_Formed.l0 (k + 1) y0 y1))
 | 0 => fun _ _ r h => by simp [spec_Formed.l0] at h
 | k + 1 => by
  have ih0 := spec_Formed.mono_l k
  ·
   intro y0 y1
   unfold spec_Formed.l0
   repeat' first
   | (with_reducible exact ih0 _ _)
   | (with_reducible exact LeO.refl _)
   | (with_reducible exact LeO.none _)
   | (with_reducible refine LeO.ite ?_ ?_)
   | (with_reducible refine LeO.bind ?_ (fun _ => ?_))
   | exact ih0 _ _
   | exact LeO.none _
   | refine LeO.ite ?_ ?_
   | refine LeO.bind ?_ (fun _ => ?_)
theorem spec_Formed.mono : ∀ a0 k, LeO (spec_Formed.f k a0) (spec_Formed.f (k + 1) a0) := by
 intro a0 k
 have ih0 := spec_Formed.mono_l k
 unfold spec_Formed.f
 repeat' first
   | (with_reducible exact ih0 _ _)
   | (with_reducible exact LeO.refl _)
   | (with_reducible exact LeO.none _)
   | (with_reducible refine LeO.ite ?_ ?_)
   | (with_reducible refine LeO.bind ?_ (fun _ => ?_))
   | exact ih0 _ _
   | exact LeO.none _
   | refine LeO.ite ?_ ?_
   | refine LeO.bind ?_ (fun _ => ?_)
set_option maxHeartbeats 8000000 in
set_option maxRecDepth 100000 in
theorem spec_Formed.calls (k : Nat) (A0 : Option Addr) (c0 : Nat) (l0 : List ByteArray) (r : Bool) (w : World) (hr0 : Kd.C Kd.string w A0 l0.length l0) (hc0 : l0.length ≤ c0) (h : spec_Formed.f k l0 = some r) :
  Calls Tryd.prog 45 #[.slice A0 l0.length c0] w fun e w' => e = .returned (.bool r) ∧ Drawn0 w w' := by
 have HR0 := Aside0.mk hr0
 have HC0 := Aside0.mk hc0
 clear hr0 hc0
 have H : (spec_Formed.l0 k l0 0) = some r := h
 clear h
 have H' := Aside0.mk H
 clear H
 go_enter Tryd.func45, Tryd.ntmps45
 go_wp2
 go_loopg [3] k (fun kq v3 w' => ∃ (x3_1 : Int), v3 = .int .i64 x3_1 ∧ Aside0 (spec_Formed.l0 kq l0 x3_1 = some r) ∧ Aside0 (kq ≤ k) ∧ Drawn0 w w')
 case atStart => exact ⟨(0), (by first | rfl | (simp; done) | (simp [*]; done)), H', ⟨Nat.le_refl _⟩, by repeat (first | exact Drawn0.refl _ | apply Drawn0.step)⟩
 case round =>
  clear H'
  obtain ⟨x3_1, rfl, HA, HK1, ⟨m1, rfl⟩⟩ := hrel
  cases gk with
  | zero => exact absurd HA.out (by simp [spec_Formed.l0])
  | succ k1 =>
   have H := HA.out
   clear HA
   simp only [spec_Formed.l0] at H
   by_cases c2 : x3_1 < (l0.length : Int)
   ·
    rw [if_pos c2] at H
    have c2b0 : decide (x3_1 < (l0.length : Int)) = true := decide_eq_true c2
    clear c2
    by_cases c3 : 0 ≤ x3_1
    ·
     rw [if_pos c3] at H
     have c3b0 : decide (0 ≤ x3_1) = true := decide_eq_true c3
     clear c3
     by_cases c4 : (rdOf ByteArray.empty l0 x3_1).toList = ([] : List UInt8)
     ·
      rw [if_pos c4] at H
      have c4b0 : ((rdOf ByteArray.empty l0 x3_1).toList == ([] : List UInt8)) = true := beq_iff_eq.mpr c4
      have c4b1 : ((rdOf ByteArray.empty l0 x3_1).toList != ([] : List UInt8)) = false := bne_eq_false_iff_eq.mpr c4
      clear c4
      obtain rfl := Option.some.inj H
      have p142 : 0 ≤ (x3_1 : Int) := of_decide_eq_true (by first | (with_reducible assumption) | assumption)
      have q142 : x3_1 < (l0.length : Int) := of_decide_eq_true (by first | (with_reducible assumption) | assumption)
      obtain ⟨ad142, e142, hx142_0⟩ := Kd.at_string HR0.out x3_1 p142 q142
      cases e142
      replace p142 := eq_true p142
      replace q142 := eq_true q142
      go_wp2
      go_ret
      exact ⟨by first | rfl | (simp; done) | (simp [*]; done) | (simp; generalize ByteArray.toList _ = l_; cases l_ <;> rfl), by repeat (first | exact Drawn0.refl _ | apply Drawn0.step)⟩
     ·
      rw [if_neg c4] at H
      have c4b0 : ((rdOf ByteArray.empty l0 x3_1).toList == ([] : List UInt8)) = false := beq_eq_false_iff_ne.mpr c4
      have c4b1 : ((rdOf ByteArray.empty l0 x3_1).toList != ([] : List UInt8)) = true := bne_iff_ne.mpr c4
      by_cases c5 : (rdOf ByteArray.empty l0 x3_1).toList = ([62] : List UInt8)
      ·
       rw [if_pos c5] at H
       have c5b0 : ((rdOf ByteArray.empty l0 x3_1).toList == ([62] : List UInt8)) = true := beq_iff_eq.mpr c5
       have c5b1 : ((rdOf ByteArray.empty l0 x3_1).toList != ([62] : List UInt8)) = false := bne_eq_false_iff_eq.mpr c5
       clear c5
       by_cases c6 : (wrap64 (x3_1 + 1)) < (l0.length : Int)
       ·
        rw [if_pos c6] at H
        have c6b0 : decide ((wrap64 (x3_1 + 1)) < (l0.length : Int)) = true := decide_eq_true c6
        clear c6
        obtain rfl := Option.some.inj H
        have p142 : 0 ≤ (x3_1 : Int) := of_decide_eq_true (by first | (with_reducible assumption) | assumption)
        have q142 : x3_1 < (l0.length : Int) := of_decide_eq_true (by first | (with_reducible assumption) | assumption)
        obtain ⟨ad142, e142, hx142_0⟩ := Kd.at_string HR0.out x3_1 p142 q142
        cases e142
        replace p142 := eq_true p142
        replace q142 := eq_true q142
        have p143 : 0 ≤ (x3_1 : Int) := of_decide_eq_true (by first | (with_reducible assumption) | assumption)
        have q143 : x3_1 < (l0.length : Int) := of_decide_eq_true (by first | (with_reducible assumption) | assumption)
        obtain ⟨ad143, e143, hx143_0⟩ := Kd.at_string HR0.out x3_1 p143 q143
        obtain rfl : ad142 = ad143 := (by injection e143)
        replace p143 := eq_true p143
        replace q143 := eq_true q143
        go_wp2
        go_ret
        exact ⟨by first | rfl | (simp; done) | (simp [*]; done) | (simp; generalize ByteArray.toList _ = l_; cases l_ <;> rfl), by repeat (first | exact Drawn0.refl _ | apply Drawn0.step)⟩
       ·
        rw [if_neg c6] at H
        have c6b0 : decide ((wrap64 (x3_1 + 1)) < (l0.length : Int)) = false := decide_eq_false c6
        clear c6
        have H' := Aside0.mk H
        clear H
        have p142 : 0 ≤ (x3_1 : Int) := of_decide_eq_true (by first | (with_reducible assumption) | assumption)
        have q142 : x3_1 < (l0.length : Int) := of_decide_eq_true (by first | (with_reducible assumption) | assumption)
        obtain ⟨ad142, e142, hx142_0⟩ := Kd.at_string HR0.out x3_1 p142 q142
        cases e142
        replace p142 := eq_true p142
        replace q142 := eq_true q142
        have p143 : 0 ≤ (x3_1 : Int) := of_decide_eq_true (by first | (with_reducible assumption) | assumption)
        have q143 : x3_1 < (l0.length : Int) := of_decide_eq_true (by first | (with_reducible assumption) | assumption)
        obtain ⟨ad143, e143, hx143_0⟩ := Kd.at_string HR0.out x3_1 p143 q143
        obtain rfl : ad142 = ad143 := (by injection e143)
        replace p143 := eq_true p143
        replace q143 := eq_true q143
        go_wp2
        go_roundg k1
        case measure => have := HK1.out; omega
        case rel => exact ⟨(wrap64 (x3_1 + 1)), (by first | rfl | (simp; done) | (simp [*]; done)), H', ⟨by have := HK1.out; omega⟩, by repeat (first | exact Drawn0.refl _ | apply Drawn0.step)⟩
      ·
       rw [if_neg c5] at H
       have c5b0 : ((rdOf ByteArray.empty l0 x3_1).toList == ([62] : List UInt8)) = false := beq_eq_false_iff_ne.mpr c5
       have c5b1 : ((rdOf ByteArray.empty l0 x3_1).toList != ([62] : List UInt8)) = true := bne_iff_ne.mpr c5
       have H' := Aside0.mk H
       clear H
       have p142 : 0 ≤ (x3_1 : Int) := of_decide_eq_true (by first | (with_reducible assumption) | assumption)
       have q142 : x3_1 < (l0.length : Int) := of_decide_eq_true (by first | (with_reducible assumption) | assumption)
       obtain ⟨ad142, e142, hx142_0⟩ := Kd.at_string HR0.out x3_1 p142 q142
       cases e142
       replace p142 := eq_true p142
       replace q142 := eq_true q142
       have p143 : 0 ≤ (x3_1 : Int) := of_decide_eq_true (by first | (with_reducible assumption) | assumption)
       have q143 : x3_1 < (l0.length : Int) := of_decide_eq_true (by first | (with_reducible assumption) | assumption)
       obtain ⟨ad143, e143, hx143_0⟩ := Kd.at_string HR0.out x3_1 p143 q143
       obtain rfl : ad142 = ad143 := (by injection e143)
       replace p143 := eq_true p143
       replace q143 := eq_true q143
       go_wp2
       go_roundg k1
       case measure => have := HK1.out; omega
       case rel => exact ⟨(wrap64 (x3_1 + 1)), (by first | rfl | (simp; done) | (simp [*]; done)), H', ⟨by have := HK1.out; omega⟩, by repeat (first | exact Drawn0.refl _ | apply Drawn0.step)⟩
    ·
     rw [if_neg c3] at H
     exact absurd H (by simp)
   ·
    rw [if_neg c2] at H
    have c2b0 : decide (x3_1 < (l0.length : Int)) = false := decide_eq_false c2
    clear c2
    obtain rfl := Option.some.inj H
    go_wp2
    go_ret
    exact ⟨by first | rfl | (simp; done) | (simp [*]; done) | (simp; generalize ByteArray.toList _ = l_; cases l_ <;> rfl), by repeat (first | exact Drawn0.refl _ | apply Drawn0.step)⟩

end Go.Proofs.YtcnbnljlopopkaaDoor.PFnListMatch

-- thin
