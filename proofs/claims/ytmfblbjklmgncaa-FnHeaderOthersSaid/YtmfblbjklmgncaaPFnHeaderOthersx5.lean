-- Written by hprint.py (this session's program, over the kit's printing program, with this session's own contracts in it). Not trusted: Lean checks it.
import Derived.Test.YtmfblbjklmgncaaPFnHeaderOthersx0
import Derived.Test.YtmfblbjklmgncaaPFnHeaderOthersx1
import Derived.Test.YtmfblbjklmgncaaPFnHeaderOthersx3
import Derived.Test.YtmfblbjklmgncaaPFnHeaderOthersx4
namespace Go.Proofs.Ytmfblbjklmgncaa.PFnHeaderOthers
open Go.RowKit Go.Proofs.YtmfblbjklmgncaaW.PrintWords Go.Proofs.YtmfblbjklmgncaaW.PrintLast Go.Proofs.YtmfblbjklmgncaaW.PrintMore
attribute [local go_sem] max2_int min2_int max_two min_two max_three min_three max_four min_four   -- for this text's walks alone
set_option linter.unusedVariables false
set_option linter.unusedSimpArgs false

/-! ### laws_sameBytes: function 13 -/
def laws_sameBytes.l0 : Nat → List Int → List Int → Int → Option (Bool)
  | 0, _, _, _ => none
  | k + 1, x0, x1, x5 => if x5 < (x0.length : Int) then (if 0 ≤ x5 then (if x5 < (x1.length : Int) then (if (rd x0 x5) = (rd x1 x5) then (laws_sameBytes.l0 k x0 x1 (wrap64 (x5 + 1))) else (some false)) else (none)) else (none)) else (some true)
def laws_sameBytes.f (k : Nat) (l0 : List Int) (l1 : List Int) : Option (Bool) := if (l0.length : Int) = (l1.length : Int) then (laws_sameBytes.l0 k l0 l1 0) else (some false)
theorem laws_sameBytes.mono_l : ∀ k, (∀ y0 y1 y2, LeO (laws_sameBytes.l0 k y0 y1 y2) (laws_sameBytes.l0 (k + 1) y0 y1 y2))
  | 0 => fun _ _ _ r h => by simp [laws_sameBytes.l0] at h
  | k + 1 => by
    have ih0 := laws_sameBytes.mono_l k
    · intro y0 y1 y2
      unfold laws_sameBytes.l0
      repeat' first
      | (with_reducible exact ih0 _ _ _)
      | (with_reducible exact LeO.refl _)
      | (with_reducible exact LeO.none _)
      | (with_reducible refine LeO.ite ?_ ?_)
      | (with_reducible refine LeO.bind ?_ (fun _ => ?_))
      | exact ih0 _ _ _
      | exact LeO.none _
      | refine LeO.ite ?_ ?_
      | refine LeO.bind ?_ (fun _ => ?_)
theorem laws_sameBytes.mono : ∀ a0 a1 k, LeO (laws_sameBytes.f k a0 a1) (laws_sameBytes.f (k + 1) a0 a1) := by
  intro a0 a1 k
  have ih0 := laws_sameBytes.mono_l k
  unfold laws_sameBytes.f
  repeat' first
      | (with_reducible exact ih0 _ _ _)
      | (with_reducible exact LeO.refl _)
      | (with_reducible exact LeO.none _)
      | (with_reducible refine LeO.ite ?_ ?_)
      | (with_reducible refine LeO.bind ?_ (fun _ => ?_))
      | exact ih0 _ _ _
      | exact LeO.none _
      | refine LeO.ite ?_ ?_
      | refine LeO.bind ?_ (fun _ => ?_)
set_option maxHeartbeats 8000000 in
set_option maxRecDepth 100000 in
theorem laws_sameBytes.calls (k : Nat) (A0 : Option Addr) (c0 : Nat) (l0 : List Int) (A1 : Option Addr) (c1 : Nat) (l1 : List Int) (r : Bool) (w : World) (hr0 : Kd.C (Kd.int .u8) w A0 l0.length l0) (hc0 : l0.length ≤ c0) (hr1 : Kd.C (Kd.int .u8) w A1 l1.length l1) (hc1 : l1.length ≤ c1) (h : laws_sameBytes.f k l0 l1 = some r) :
    Calls Try.prog 13 #[.slice A0 l0.length c0, .slice A1 l1.length c1] w fun e w' => e = .returned (.bool r) ∧ Drawn0 w w' := by
  have HR0 := Aside0.mk hr0
  have HC0 := Aside0.mk hc0
  clear hr0 hc0
  have HR1 := Aside0.mk hr1
  have HC1 := Aside0.mk hc1
  clear hr1 hc1
  have H : (if (l0.length : Int) = (l1.length : Int) then (laws_sameBytes.l0 k l0 l1 0) else (some false)) = some r := h
  clear h
  by_cases c3 : (l0.length : Int) = (l1.length : Int)
  · rw [if_pos c3] at H
    have c3b0 : ((l0.length : Int) == (l1.length : Int)) = true := beq_iff_eq.mpr c3
    have c3b1 : ((l0.length : Int) != (l1.length : Int)) = false := bne_eq_false_iff_eq.mpr c3
    have c3b2 : (l0.length == l1.length) = true := by first | simpa using c3 | (simp at c3 ⊢; omega)
    clear c3
    have H' := Aside0.mk H
    clear H
    go_enter Try.func13, Try.ntmps13
    go_wp2
    repeat (go_quiet (fail); try go_wp2)
    go_loopg [5] k (fun kq v5 w' => ∃ (x5_1 : Int), v5 = .int .i64 x5_1 ∧ Aside0 (laws_sameBytes.l0 kq l0 l1 x5_1 = some r) ∧ Aside0 (kq ≤ k) ∧ Drawn0 w w')
    case atStart => exact ⟨(0), (by first | rfl | (simp; done) | (simp [*]; done)), H', ⟨Nat.le_refl _⟩, by repeat (first | exact Drawn0.refl _ | apply Drawn0.step)⟩
    case round =>
      clear H'
      try clear c1
      try clear p2
      try clear c3
      try clear c3b0
      try clear c3b1
      try clear c3b2
      obtain ⟨x5_1, rfl, HA, HK1, ⟨m1, rfl⟩⟩ := hrel
      cases gk with
      | zero => exact absurd HA.out (by simp [laws_sameBytes.l0])
      | succ k1 =>
        have H := HA.out
        clear HA
        simp only [laws_sameBytes.l0] at H
        by_cases c4 : x5_1 < (l0.length : Int)
        · rw [if_pos c4] at H
          have c4b0 : decide (x5_1 < (l0.length : Int)) = true := decide_eq_true c4
          clear c4
          by_cases c5 : 0 ≤ x5_1
          · rw [if_pos c5] at H
            have c5b0 : decide (0 ≤ x5_1) = true := decide_eq_true c5
            clear c5
            by_cases c6 : x5_1 < (l1.length : Int)
            · rw [if_pos c6] at H
              have c6b0 : decide (x5_1 < (l1.length : Int)) = true := decide_eq_true c6
              clear c6
              by_cases c7 : (rd l0 x5_1) = (rd l1 x5_1)
              · rw [if_pos c7] at H
                have c7b0 : ((rd l0 x5_1) == (rd l1 x5_1)) = true := beq_iff_eq.mpr c7
                have c7b1 : ((rd l0 x5_1) != (rd l1 x5_1)) = false := bne_eq_false_iff_eq.mpr c7
                clear c7
                have H' := Aside0.mk H
                clear H
                have p152 : 0 ≤ (x5_1 : Int) := of_decide_eq_true (by first | (with_reducible assumption) | assumption)
                have q152 : x5_1 < (l0.length : Int) := of_decide_eq_true (by first | (with_reducible assumption) | assumption)
                obtain ⟨ad152, e152, hx152_0⟩ := Kd.at_int HR0.out x5_1 p152 q152
                cases e152
                replace p152 := eq_true p152
                replace q152 := eq_true q152
                have p153 : 0 ≤ (x5_1 : Int) := of_decide_eq_true (by first | (with_reducible assumption) | assumption)
                have q153 : x5_1 < (l1.length : Int) := of_decide_eq_true (by first | (with_reducible assumption) | assumption)
                obtain ⟨ad153, e153, hx153_0⟩ := Kd.at_int HR1.out x5_1 p153 q153
                cases e153
                replace p153 := eq_true p153
                replace q153 := eq_true q153
                go_wp2
                repeat (go_quiet (fail); try go_wp2)
                go_roundg k1
                case measure => have := HK1.out; omega
                case rel => exact ⟨(wrap64 (x5_1 + 1)), (by first | rfl | (simp; done) | (simp [*]; done)), H', ⟨by have := HK1.out; omega⟩, by repeat (first | exact Drawn0.refl _ | apply Drawn0.step)⟩
              · rw [if_neg c7] at H
                have c7b0 : ((rd l0 x5_1) == (rd l1 x5_1)) = false := beq_eq_false_iff_ne.mpr c7
                have c7b1 : ((rd l0 x5_1) != (rd l1 x5_1)) = true := bne_iff_ne.mpr c7
                obtain rfl := Option.some.inj H
                have p152 : 0 ≤ (x5_1 : Int) := of_decide_eq_true (by first | (with_reducible assumption) | assumption)
                have q152 : x5_1 < (l0.length : Int) := of_decide_eq_true (by first | (with_reducible assumption) | assumption)
                obtain ⟨ad152, e152, hx152_0⟩ := Kd.at_int HR0.out x5_1 p152 q152
                cases e152
                replace p152 := eq_true p152
                replace q152 := eq_true q152
                have p153 : 0 ≤ (x5_1 : Int) := of_decide_eq_true (by first | (with_reducible assumption) | assumption)
                have q153 : x5_1 < (l1.length : Int) := of_decide_eq_true (by first | (with_reducible assumption) | assumption)
                obtain ⟨ad153, e153, hx153_0⟩ := Kd.at_int HR1.out x5_1 p153 q153
                cases e153
                replace p153 := eq_true p153
                replace q153 := eq_true q153
                go_wp2
                repeat (go_quiet (fail); try go_wp2)
                go_ret
                exact ⟨by first | rfl | (simp; done) | (simp [*]; done) | (simp; generalize ByteArray.toList _ = l_; cases l_ <;> rfl), by repeat (first | exact Drawn0.refl _ | apply Drawn0.step)⟩
            · rw [if_neg c6] at H
              exact absurd H (by simp)
          · rw [if_neg c5] at H
            exact absurd H (by simp)
        · rw [if_neg c4] at H
          have c4b0 : decide (x5_1 < (l0.length : Int)) = false := decide_eq_false c4
          clear c4
          obtain rfl := Option.some.inj H
          go_wp2
          repeat (go_quiet (fail); try go_wp2)
          go_ret
          exact ⟨by first | rfl | (simp; done) | (simp [*]; done) | (simp; generalize ByteArray.toList _ = l_; cases l_ <;> rfl), by repeat (first | exact Drawn0.refl _ | apply Drawn0.step)⟩
  · rw [if_neg c3] at H
    have c3b0 : ((l0.length : Int) == (l1.length : Int)) = false := beq_eq_false_iff_ne.mpr c3
    have c3b1 : ((l0.length : Int) != (l1.length : Int)) = true := bne_iff_ne.mpr c3
    have c3b2 : (l0.length == l1.length) = false := by first | simpa using c3 | (simp at c3 ⊢; omega)
    obtain rfl := Option.some.inj H
    go_enter Try.func13, Try.ntmps13
    go_wp2
    repeat (go_quiet (fail); try go_wp2)
    go_ret
    exact ⟨by first | rfl | (simp; done) | (simp [*]; done) | (simp; generalize ByteArray.toList _ = l_; cases l_ <;> rfl), by repeat (first | exact Drawn0.refl _ | apply Drawn0.step)⟩

/-! ### laws_FnHeaderOthers: function 3 -/
section
open _root_.Go.Proofs.Ytmfblbjklmgncaa.HeadW
def laws_FnHeaderOthers.h (k : Nat) (l0 : List (S37)) (a1 a2 : ByteArray) : Option Bool :=
  (spec_Header.f k l0).bind fun t => (impl_HeaderGet.f t a2).bind fun g => (impl_HeaderRemove.f t a1).bind fun u =>
    if u.length = 0 then (if g.2 = false then laws_awakeHeader.f k else none) else
    (impl_HeaderGetR.f u a2).bind fun g2 => (impl_HeaderGetR.f u a1).bind fun g3 => if g2.2 = g.2 ∧ g3.2 = false then (laws_sameBytes.f k g.1 g2.1).bind fun s => if s = true then laws_awakeHeader.f k else none else none
def laws_FnHeaderOthers.g (k : Nat) (l0 : List (S37)) (a1 a2 : ByteArray) : Option Bool :=
  (laws_headed.f k l0).bind fun h => if h = false then laws_awakeHeader.f k else
  (laws_knownKey.f k l0 a1).bind fun q => if q = false then laws_awakeHeader.f k else
  (laws_knownKey.f k l0 a2).bind fun q => if q = false then laws_awakeHeader.f k else
  (laws_lower.f k a1).bind fun s1 => (laws_lower.f k a2).bind fun s2 => if s1.toList = s2.toList then laws_awakeHeader.f k else laws_FnHeaderOthers.h k l0 a1 a2
def laws_FnHeaderOthers.f (k : Nat) (l0 : List (S37)) (a1 a2 : ByteArray) : Option Bool :=
  (laws_zzFits3.f k l0).bind fun z => if z = false then some true else if 2147483647 < a1.size then some true else if 2147483647 < a2.size then some true else laws_FnHeaderOthers.g k l0 a1 a2
theorem laws_FnHeaderOthers.mono : ∀ a0 a1 a2 k, LeO (laws_FnHeaderOthers.f k a0 a1 a2) (laws_FnHeaderOthers.f (k + 1) a0 a1 a2) := by
  intro a0 a1 a2 k
  unfold laws_FnHeaderOthers.f laws_FnHeaderOthers.g laws_FnHeaderOthers.h
  repeat' first
      | (with_reducible exact laws_zzFits3.mono _ _)
      | (with_reducible exact laws_headed.mono _ _)
      | (with_reducible exact laws_knownKey.mono _ _ _)
      | (with_reducible exact laws_awakeHeader.mono _)
      | (with_reducible exact laws_lower.mono _ _)
      | (with_reducible exact laws_sameBytes.mono _ _ _)
      | (with_reducible exact spec_Header.mono _ _)
      | (with_reducible exact LeO.refl _)
      | (with_reducible exact LeO.none _)
      | (with_reducible refine LeO.ite ?_ ?_)
      | (with_reducible refine LeO.bind ?_ (fun _ => ?_))
set_option maxHeartbeats 8000000 in
set_option maxRecDepth 100000 in
theorem HO_A (k : Nat) (A0 : Option Addr) (c0 : Nat) (l0 : List (S37)) (a1 a2 : ByteArray) (w : World) (hr0 : Kd.C k37 w A0 l0.length l0) (hc0 : l0.length ≤ c0) (hz : laws_zzFits3.f k l0 = some false) :
    Calls Try.prog 3 #[.slice A0 l0.length c0, .string a1, .string a2] w fun e w' => e = .returned (.bool true) ∧ Below w.heap.size w w' := by
  have HC := Aside0.mk hr0
  have HZ := Aside0.mk (laws_zzFits3.calls k A0 c0 l0 false w hr0 hc0 hz)
  have HB0 := Aside0.mk (Below.refl w.heap.size w)
  clear hr0 hc0 hz
  have hkb_ : ∀ (s_ : ByteArray) (W_ : World), (convert 9 27 (.string s_)).run Try.prog W_ = .ok (.slice (some ⟨W_.heap.size, 0, none⟩) s_.size (grownCap W_ s_.size 0 5)) (Lib.bytesWorld W_ 5 s_) := fun s_ W_ => print_bytes 9 27 5 Try.underlying9 Try.underlying27 Try.underlying5 s_ W_
  go_enter Try.func3, Try.ntmps3
  go_wp2_with fail
  refine (HZ.out).mono ?_
  rintro e w1 ⟨rfl, hb1⟩
  have HB1 := Aside0.mk (below_step HB0.out hb1)
  clear hb1
  go_wp2_with fail
  go_ret
  exact ⟨rfl, HB1.out⟩
set_option maxHeartbeats 8000000 in
set_option maxRecDepth 100000 in
theorem HO_B1 (k : Nat) (A0 : Option Addr) (c0 : Nat) (l0 : List (S37)) (a1 a2 : ByteArray) (w : World) (hr0 : Kd.C k37 w A0 l0.length l0) (hc0 : l0.length ≤ c0) (hz : laws_zzFits3.f k l0 = some true) (hs1 : 2147483647 < a1.size) :
    Calls Try.prog 3 #[.slice A0 l0.length c0, .string a1, .string a2] w fun e w' => e = .returned (.bool true) ∧ Below w.heap.size w w' := by
  have HC := Aside0.mk hr0
  have HZ := Aside0.mk (laws_zzFits3.calls k A0 c0 l0 true w hr0 hc0 hz)
  have HB0 := Aside0.mk (Below.refl w.heap.size w)
  have q1 : decide ((2147483647 : Int) < (a1.size : Int)) = true := decide_eq_true (by omega)
  have q1n : decide (2147483647 < a1.size) = true := decide_eq_true hs1
  clear hr0 hc0 hz hs1
  have hkb_ : ∀ (s_ : ByteArray) (W_ : World), (convert 9 27 (.string s_)).run Try.prog W_ = .ok (.slice (some ⟨W_.heap.size, 0, none⟩) s_.size (grownCap W_ s_.size 0 5)) (Lib.bytesWorld W_ 5 s_) := fun s_ W_ => print_bytes 9 27 5 Try.underlying9 Try.underlying27 Try.underlying5 s_ W_
  go_enter Try.func3, Try.ntmps3
  go_wp2_with fail
  refine (HZ.out).mono ?_
  rintro e w1 ⟨rfl, hb1⟩
  have HB1 := Aside0.mk (below_step HB0.out hb1)
  clear hb1
  go_wp2_with fail
  go_ret
  exact ⟨rfl, HB1.out⟩
set_option maxHeartbeats 8000000 in
set_option maxRecDepth 100000 in
theorem HO_B2 (k : Nat) (A0 : Option Addr) (c0 : Nat) (l0 : List (S37)) (a1 a2 : ByteArray) (w : World) (hr0 : Kd.C k37 w A0 l0.length l0) (hc0 : l0.length ≤ c0) (hz : laws_zzFits3.f k l0 = some true) (hs1 : ¬ 2147483647 < a1.size) (hs2 : 2147483647 < a2.size) :
    Calls Try.prog 3 #[.slice A0 l0.length c0, .string a1, .string a2] w fun e w' => e = .returned (.bool true) ∧ Below w.heap.size w w' := by
  have HC := Aside0.mk hr0
  have HZ := Aside0.mk (laws_zzFits3.calls k A0 c0 l0 true w hr0 hc0 hz)
  have HB0 := Aside0.mk (Below.refl w.heap.size w)
  have q1 : decide ((2147483647 : Int) < (a1.size : Int)) = false := decide_eq_false (by omega)
  have q1n : decide (2147483647 < a1.size) = false := decide_eq_false hs1
  have q2 : decide ((2147483647 : Int) < (a2.size : Int)) = true := decide_eq_true (by omega)
  have q2n : decide (2147483647 < a2.size) = true := decide_eq_true hs2
  clear hr0 hc0 hz hs1 hs2
  have hkb_ : ∀ (s_ : ByteArray) (W_ : World), (convert 9 27 (.string s_)).run Try.prog W_ = .ok (.slice (some ⟨W_.heap.size, 0, none⟩) s_.size (grownCap W_ s_.size 0 5)) (Lib.bytesWorld W_ 5 s_) := fun s_ W_ => print_bytes 9 27 5 Try.underlying9 Try.underlying27 Try.underlying5 s_ W_
  go_enter Try.func3, Try.ntmps3
  go_wp2_with fail
  refine (HZ.out).mono ?_
  rintro e w1 ⟨rfl, hb1⟩
  have HB1 := Aside0.mk (below_step HB0.out hb1)
  clear hb1
  go_wp2_with fail
  go_ret
  exact ⟨rfl, HB1.out⟩
set_option maxHeartbeats 8000000 in
set_option maxRecDepth 100000 in
theorem HO_C (k : Nat) (A0 : Option Addr) (c0 : Nat) (l0 : List (S37)) (a1 a2 : ByteArray) (w : World) (hr0 : Kd.C k37 w A0 l0.length l0) (hc0 : l0.length ≤ c0) (hz : laws_zzFits3.f k l0 = some true) (hs1 : ¬ 2147483647 < a1.size) (hs2 : ¬ 2147483647 < a2.size) (hh : laws_headed.f k l0 = some false) (r : Bool) (hr : laws_awakeHeader.f k = some r) :
    Calls Try.prog 3 #[.slice A0 l0.length c0, .string a1, .string a2] w fun e w' => e = .returned (.bool r) ∧ Below w.heap.size w w' := by
  have HC := Aside0.mk hr0
  have HZ := Aside0.mk (laws_zzFits3.calls k A0 c0 l0 true w hr0 hc0 hz)
  have HB0 := Aside0.mk (Below.refl w.heap.size w)
  have q1 : decide ((2147483647 : Int) < (a1.size : Int)) = false := decide_eq_false (by omega)
  have q1n : decide (2147483647 < a1.size) = false := decide_eq_false hs1
  have q2 : decide ((2147483647 : Int) < (a2.size : Int)) = false := decide_eq_false (by omega)
  have q2n : decide (2147483647 < a2.size) = false := decide_eq_false hs2
  have HH := Aside0.mk (fun (W : World) (h : Kd.C k37 W A0 l0.length l0) => laws_headed.calls k A0 c0 l0 false W h hc0 hh)
  have HR := Aside0.mk hr
  clear hr
  clear hr0 hc0 hz hs1 hs2 hh
  have hkb_ : ∀ (s_ : ByteArray) (W_ : World), (convert 9 27 (.string s_)).run Try.prog W_ = .ok (.slice (some ⟨W_.heap.size, 0, none⟩) s_.size (grownCap W_ s_.size 0 5)) (Lib.bytesWorld W_ 5 s_) := fun s_ W_ => print_bytes 9 27 5 Try.underlying9 Try.underlying27 Try.underlying5 s_ W_
  go_enter Try.func3, Try.ntmps3
  go_wp2_with fail
  refine (HZ.out).mono ?_
  rintro e w1 ⟨rfl, hb1⟩
  have HB1 := Aside0.mk (below_step HB0.out hb1)
  clear hb1
  go_wp2_with fail
  refine (HH.out w1 (Kd.C_below HC.out HB1.out)).mono ?_
  rintro e w2 ⟨rfl, hb2⟩
  have HB2 := Aside0.mk (below_step HB1.out hb2)
  clear hb2
  go_wp2_with fail
  refine (laws_awakeHeader.calls k r w2 HR.out).mono ?_
  rintro e w9 ⟨rfl, hb9⟩
  have HB9 := Aside0.mk (below_step HB2.out hb9)
  clear hb9
  go_wp2_with fail
  go_ret
  exact ⟨rfl, HB9.out⟩
set_option maxHeartbeats 8000000 in
set_option maxRecDepth 100000 in
theorem HO_D1 (k : Nat) (A0 : Option Addr) (c0 : Nat) (l0 : List (S37)) (a1 a2 : ByteArray) (w : World) (hr0 : Kd.C k37 w A0 l0.length l0) (hc0 : l0.length ≤ c0) (hz : laws_zzFits3.f k l0 = some true) (hs1 : ¬ 2147483647 < a1.size) (hs2 : ¬ 2147483647 < a2.size) (hh : laws_headed.f k l0 = some true) (hk1 : laws_knownKey.f k l0 a1 = some false) (r : Bool) (hr : laws_awakeHeader.f k = some r) :
    Calls Try.prog 3 #[.slice A0 l0.length c0, .string a1, .string a2] w fun e w' => e = .returned (.bool r) ∧ Below w.heap.size w w' := by
  have HC := Aside0.mk hr0
  have HZ := Aside0.mk (laws_zzFits3.calls k A0 c0 l0 true w hr0 hc0 hz)
  have HB0 := Aside0.mk (Below.refl w.heap.size w)
  have q1 : decide ((2147483647 : Int) < (a1.size : Int)) = false := decide_eq_false (by omega)
  have q1n : decide (2147483647 < a1.size) = false := decide_eq_false hs1
  have q2 : decide ((2147483647 : Int) < (a2.size : Int)) = false := decide_eq_false (by omega)
  have q2n : decide (2147483647 < a2.size) = false := decide_eq_false hs2
  have HH := Aside0.mk (fun (W : World) (h : Kd.C k37 W A0 l0.length l0) => laws_headed.calls k A0 c0 l0 true W h hc0 hh)
  have HK1 := Aside0.mk (fun (W : World) (h : Kd.C k37 W A0 l0.length l0) => laws_knownKey.calls k A0 c0 l0 a1 false W h hc0 hk1)
  have HR := Aside0.mk hr
  clear hr
  clear hr0 hc0 hz hs1 hs2 hh hk1
  have hkb_ : ∀ (s_ : ByteArray) (W_ : World), (convert 9 27 (.string s_)).run Try.prog W_ = .ok (.slice (some ⟨W_.heap.size, 0, none⟩) s_.size (grownCap W_ s_.size 0 5)) (Lib.bytesWorld W_ 5 s_) := fun s_ W_ => print_bytes 9 27 5 Try.underlying9 Try.underlying27 Try.underlying5 s_ W_
  go_enter Try.func3, Try.ntmps3
  go_wp2_with fail
  refine (HZ.out).mono ?_
  rintro e w1 ⟨rfl, hb1⟩
  have HB1 := Aside0.mk (below_step HB0.out hb1)
  clear hb1
  go_wp2_with fail
  refine (HH.out w1 (Kd.C_below HC.out HB1.out)).mono ?_
  rintro e w2 ⟨rfl, hb2⟩
  have HB2 := Aside0.mk (below_step HB1.out hb2)
  clear hb2
  go_wp2_with fail
  refine (HK1.out w2 (Kd.C_below HC.out HB2.out)).mono ?_
  rintro e w3 ⟨rfl, hb3⟩
  have HB3 := Aside0.mk (below_step HB2.out hb3)
  clear hb3
  go_wp2_with fail
  refine (laws_awakeHeader.calls k r w3 HR.out).mono ?_
  rintro e w9 ⟨rfl, hb9⟩
  have HB9 := Aside0.mk (below_step HB3.out hb9)
  clear hb9
  go_wp2_with fail
  go_ret
  exact ⟨rfl, HB9.out⟩
set_option maxHeartbeats 8000000 in
set_option maxRecDepth 100000 in
theorem HO_D2 (k : Nat) (A0 : Option Addr) (c0 : Nat) (l0 : List (S37)) (a1 a2 : ByteArray) (w : World) (hr0 : Kd.C k37 w A0 l0.length l0) (hc0 : l0.length ≤ c0) (hz : laws_zzFits3.f k l0 = some true) (hs1 : ¬ 2147483647 < a1.size) (hs2 : ¬ 2147483647 < a2.size) (hh : laws_headed.f k l0 = some true) (hk1 : laws_knownKey.f k l0 a1 = some true) (hk2 : laws_knownKey.f k l0 a2 = some false) (r : Bool) (hr : laws_awakeHeader.f k = some r) :
    Calls Try.prog 3 #[.slice A0 l0.length c0, .string a1, .string a2] w fun e w' => e = .returned (.bool r) ∧ Below w.heap.size w w' := by
  have HC := Aside0.mk hr0
  have HZ := Aside0.mk (laws_zzFits3.calls k A0 c0 l0 true w hr0 hc0 hz)
  have HB0 := Aside0.mk (Below.refl w.heap.size w)
  have q1 : decide ((2147483647 : Int) < (a1.size : Int)) = false := decide_eq_false (by omega)
  have q1n : decide (2147483647 < a1.size) = false := decide_eq_false hs1
  have q2 : decide ((2147483647 : Int) < (a2.size : Int)) = false := decide_eq_false (by omega)
  have q2n : decide (2147483647 < a2.size) = false := decide_eq_false hs2
  have HH := Aside0.mk (fun (W : World) (h : Kd.C k37 W A0 l0.length l0) => laws_headed.calls k A0 c0 l0 true W h hc0 hh)
  have HK1 := Aside0.mk (fun (W : World) (h : Kd.C k37 W A0 l0.length l0) => laws_knownKey.calls k A0 c0 l0 a1 true W h hc0 hk1)
  have HK2 := Aside0.mk (fun (W : World) (h : Kd.C k37 W A0 l0.length l0) => laws_knownKey.calls k A0 c0 l0 a2 false W h hc0 hk2)
  have HR := Aside0.mk hr
  clear hr
  clear hr0 hc0 hz hs1 hs2 hh hk1 hk2
  have hkb_ : ∀ (s_ : ByteArray) (W_ : World), (convert 9 27 (.string s_)).run Try.prog W_ = .ok (.slice (some ⟨W_.heap.size, 0, none⟩) s_.size (grownCap W_ s_.size 0 5)) (Lib.bytesWorld W_ 5 s_) := fun s_ W_ => print_bytes 9 27 5 Try.underlying9 Try.underlying27 Try.underlying5 s_ W_
  go_enter Try.func3, Try.ntmps3
  go_wp2_with fail
  refine (HZ.out).mono ?_
  rintro e w1 ⟨rfl, hb1⟩
  have HB1 := Aside0.mk (below_step HB0.out hb1)
  clear hb1
  go_wp2_with fail
  refine (HH.out w1 (Kd.C_below HC.out HB1.out)).mono ?_
  rintro e w2 ⟨rfl, hb2⟩
  have HB2 := Aside0.mk (below_step HB1.out hb2)
  clear hb2
  go_wp2_with fail
  refine (HK1.out w2 (Kd.C_below HC.out HB2.out)).mono ?_
  rintro e w3 ⟨rfl, hb3⟩
  have HB3 := Aside0.mk (below_step HB2.out hb3)
  clear hb3
  go_wp2_with fail
  refine (HK2.out w3 (Kd.C_below HC.out HB3.out)).mono ?_
  rintro e w4 ⟨rfl, hb4⟩
  have HB4 := Aside0.mk (below_step HB3.out hb4)
  clear hb4
  go_wp2_with fail
  refine (laws_awakeHeader.calls k r w4 HR.out).mono ?_
  rintro e w9 ⟨rfl, hb9⟩
  have HB9 := Aside0.mk (below_step HB4.out hb9)
  clear hb9
  go_wp2_with fail
  go_ret
  exact ⟨rfl, HB9.out⟩
set_option maxHeartbeats 8000000 in
set_option maxRecDepth 100000 in
theorem HO_D3 (k : Nat) (A0 : Option Addr) (c0 : Nat) (l0 : List (S37)) (a1 a2 : ByteArray) (w : World) (hr0 : Kd.C k37 w A0 l0.length l0) (hc0 : l0.length ≤ c0) (hz : laws_zzFits3.f k l0 = some true) (hs1 : ¬ 2147483647 < a1.size) (hs2 : ¬ 2147483647 < a2.size) (hh : laws_headed.f k l0 = some true) (hk1 : laws_knownKey.f k l0 a1 = some true) (hk2 : laws_knownKey.f k l0 a2 = some true) (s1 s2 : ByteArray) (hl1 : laws_lower.f k a1 = some s1) (hl2 : laws_lower.f k a2 = some s2) (he : s1.toList = s2.toList) (r : Bool) (hr : laws_awakeHeader.f k = some r) :
    Calls Try.prog 3 #[.slice A0 l0.length c0, .string a1, .string a2] w fun e w' => e = .returned (.bool r) ∧ Below w.heap.size w w' := by
  have HC := Aside0.mk hr0
  have HZ := Aside0.mk (laws_zzFits3.calls k A0 c0 l0 true w hr0 hc0 hz)
  have HB0 := Aside0.mk (Below.refl w.heap.size w)
  have q1 : decide ((2147483647 : Int) < (a1.size : Int)) = false := decide_eq_false (by omega)
  have q1n : decide (2147483647 < a1.size) = false := decide_eq_false hs1
  have q2 : decide ((2147483647 : Int) < (a2.size : Int)) = false := decide_eq_false (by omega)
  have q2n : decide (2147483647 < a2.size) = false := decide_eq_false hs2
  have HH := Aside0.mk (fun (W : World) (h : Kd.C k37 W A0 l0.length l0) => laws_headed.calls k A0 c0 l0 true W h hc0 hh)
  have HK1 := Aside0.mk (fun (W : World) (h : Kd.C k37 W A0 l0.length l0) => laws_knownKey.calls k A0 c0 l0 a1 true W h hc0 hk1)
  have HK2 := Aside0.mk (fun (W : World) (h : Kd.C k37 W A0 l0.length l0) => laws_knownKey.calls k A0 c0 l0 a2 true W h hc0 hk2)
  have HL1 := Aside0.mk (fun (W : World) => laws_lower.calls k a1 s1 W hl1)
  have HL2 := Aside0.mk (fun (W : World) => laws_lower.calls k a2 s2 W hl2)
  clear hl1 hl2
  have q5 : (s1.toList == s2.toList) = true := beq_iff_eq.2 he
  have q6 : decide (s1.toList = s2.toList) = true := decide_eq_true he
  have HR := Aside0.mk hr
  clear hr
  clear hr0 hc0 hz hs1 hs2 hh hk1 hk2 he
  have hkb_ : ∀ (s_ : ByteArray) (W_ : World), (convert 9 27 (.string s_)).run Try.prog W_ = .ok (.slice (some ⟨W_.heap.size, 0, none⟩) s_.size (grownCap W_ s_.size 0 5)) (Lib.bytesWorld W_ 5 s_) := fun s_ W_ => print_bytes 9 27 5 Try.underlying9 Try.underlying27 Try.underlying5 s_ W_
  go_enter Try.func3, Try.ntmps3
  go_wp2_with fail
  refine (HZ.out).mono ?_
  rintro e w1 ⟨rfl, hb1⟩
  have HB1 := Aside0.mk (below_step HB0.out hb1)
  clear hb1
  go_wp2_with fail
  refine (HH.out w1 (Kd.C_below HC.out HB1.out)).mono ?_
  rintro e w2 ⟨rfl, hb2⟩
  have HB2 := Aside0.mk (below_step HB1.out hb2)
  clear hb2
  go_wp2_with fail
  refine (HK1.out w2 (Kd.C_below HC.out HB2.out)).mono ?_
  rintro e w3 ⟨rfl, hb3⟩
  have HB3 := Aside0.mk (below_step HB2.out hb3)
  clear hb3
  go_wp2_with fail
  refine (HK2.out w3 (Kd.C_below HC.out HB3.out)).mono ?_
  rintro e w4 ⟨rfl, hb4⟩
  have HB4 := Aside0.mk (below_step HB3.out hb4)
  clear hb4
  go_wp2_with fail
  refine (HL1.out w4).mono ?_
  rintro e w5 ⟨rfl, hb5⟩
  have HB5 := Aside0.mk (below_step HB4.out hb5)
  clear hb5
  go_wp2_with fail
  refine (HL2.out w5).mono ?_
  rintro e w6 ⟨rfl, hb6⟩
  have HB6 := Aside0.mk (below_step HB5.out hb6)
  clear hb6
  go_wp2_with fail
  refine (laws_awakeHeader.calls k r w6 HR.out).mono ?_
  rintro e w9 ⟨rfl, hb9⟩
  have HB9 := Aside0.mk (below_step HB6.out hb9)
  clear hb9
  go_wp2_with fail
  go_ret
  exact ⟨rfl, HB9.out⟩
set_option maxHeartbeats 8000000 in
set_option maxRecDepth 100000 in
theorem HO_E (k : Nat) (A0 : Option Addr) (c0 : Nat) (l0 : List (S37)) (a1 a2 : ByteArray) (w : World) (hr0 : Kd.C k37 w A0 l0.length l0) (hc0 : l0.length ≤ c0) (hz : laws_zzFits3.f k l0 = some true) (hs1 : ¬ 2147483647 < a1.size) (hs2 : ¬ 2147483647 < a2.size) (hh : laws_headed.f k l0 = some true) (hk1 : laws_knownKey.f k l0 a1 = some true) (hk2 : laws_knownKey.f k l0 a2 = some true) (s1 s2 : ByteArray) (hl1 : laws_lower.f k a1 = some s1) (hl2 : laws_lower.f k a2 = some s2) (he : ¬ s1.toList = s2.toList) (t : ByteArray) (ht : spec_Header.f k l0 = some t) (v : List Int) (hg : impl_HeaderGet.f t a2 = some (v, false)) (u : List Int) (hu : impl_HeaderRemove.f t a1 = some u) (hn : u.length = 0) (r : Bool) (hr : laws_awakeHeader.f k = some r) :
    Calls Try.prog 3 #[.slice A0 l0.length c0, .string a1, .string a2] w fun e w' => e = .returned (.bool r) ∧ Below w.heap.size w w' := by
  have HC := Aside0.mk hr0
  have HZ := Aside0.mk (laws_zzFits3.calls k A0 c0 l0 true w hr0 hc0 hz)
  have HB0 := Aside0.mk (Below.refl w.heap.size w)
  have q1 : decide ((2147483647 : Int) < (a1.size : Int)) = false := decide_eq_false (by omega)
  have q1n : decide (2147483647 < a1.size) = false := decide_eq_false hs1
  have q2 : decide ((2147483647 : Int) < (a2.size : Int)) = false := decide_eq_false (by omega)
  have q2n : decide (2147483647 < a2.size) = false := decide_eq_false hs2
  have HH := Aside0.mk (fun (W : World) (h : Kd.C k37 W A0 l0.length l0) => laws_headed.calls k A0 c0 l0 true W h hc0 hh)
  have HK1 := Aside0.mk (fun (W : World) (h : Kd.C k37 W A0 l0.length l0) => laws_knownKey.calls k A0 c0 l0 a1 true W h hc0 hk1)
  have HK2 := Aside0.mk (fun (W : World) (h : Kd.C k37 W A0 l0.length l0) => laws_knownKey.calls k A0 c0 l0 a2 true W h hc0 hk2)
  have HL1 := Aside0.mk (fun (W : World) => laws_lower.calls k a1 s1 W hl1)
  have HL2 := Aside0.mk (fun (W : World) => laws_lower.calls k a2 s2 W hl2)
  clear hl1 hl2
  have q5 : (s1.toList == s2.toList) = false := beq_eq_false_iff_ne.2 he
  have q6 : decide (s1.toList = s2.toList) = false := decide_eq_false he
  have HT := Aside0.mk (fun (W : World) (h : Kd.C k37 W A0 l0.length l0) => spec_Header.calls k A0 c0 l0 t W h hc0 ht)
  have HG := Aside0.mk (fun (W : World) => impl_HeaderGet.calls t a2 v false W hg (g := W.heap.size) (c := grownCap W t.size 0 5) rfl (grownCap_ge _ _ _ _))
  have HU := Aside0.mk (fun (W : World) => impl_HeaderRemove.calls t a1 u W hu (g := W.heap.size) (c := grownCap W t.size 0 5) rfl (grownCap_ge _ _ _ _))
  have hkb := fun (s_ : ByteArray) (W_ : World) => print_bytes (P := Try.prog) 9 27 5 Try.underlying9 Try.underlying27 Try.underlying5 s_ W_
  clear ht hg hu
  have qn : ((u.length : Int) == 0) = true := beq_iff_eq.2 (by omega)
  have qm : decide (u.length = 0) = true := decide_eq_true hn
  have HR := Aside0.mk hr
  clear hr
  clear hr0 hc0 hz hs1 hs2 hh hk1 hk2 he hn
  have hkb_ : ∀ (s_ : ByteArray) (W_ : World), (convert 9 27 (.string s_)).run Try.prog W_ = .ok (.slice (some ⟨W_.heap.size, 0, none⟩) s_.size (grownCap W_ s_.size 0 5)) (Lib.bytesWorld W_ 5 s_) := fun s_ W_ => print_bytes 9 27 5 Try.underlying9 Try.underlying27 Try.underlying5 s_ W_
  go_enter Try.func3, Try.ntmps3
  go_wp2_with fail
  refine (HZ.out).mono ?_
  rintro e w1 ⟨rfl, hb1⟩
  have HB1 := Aside0.mk (below_step HB0.out hb1)
  clear hb1
  go_wp2_with fail
  refine (HH.out w1 (Kd.C_below HC.out HB1.out)).mono ?_
  rintro e w2 ⟨rfl, hb2⟩
  have HB2 := Aside0.mk (below_step HB1.out hb2)
  clear hb2
  go_wp2_with fail
  refine (HK1.out w2 (Kd.C_below HC.out HB2.out)).mono ?_
  rintro e w3 ⟨rfl, hb3⟩
  have HB3 := Aside0.mk (below_step HB2.out hb3)
  clear hb3
  go_wp2_with fail
  refine (HK2.out w3 (Kd.C_below HC.out HB3.out)).mono ?_
  rintro e w4 ⟨rfl, hb4⟩
  have HB4 := Aside0.mk (below_step HB3.out hb4)
  clear hb4
  go_wp2_with fail
  refine (HL1.out w4).mono ?_
  rintro e w5 ⟨rfl, hb5⟩
  have HB5 := Aside0.mk (below_step HB4.out hb5)
  clear hb5
  go_wp2_with fail
  refine (HL2.out w5).mono ?_
  rintro e w6 ⟨rfl, hb6⟩
  have HB6 := Aside0.mk (below_step HB5.out hb6)
  clear hb6
  go_wp2_with fail
  refine (HT.out w6 (Kd.C_below HC.out HB6.out)).mono ?_
  rintro e w7 ⟨rfl, ⟨nd7, rfl⟩⟩
  have HB7 := Aside0.mk (pw_below_drewN HB6.out nd7)
  have HD7 := Aside0.mk (pw_below_drewN (Below.refl w6.heap.size w6) nd7)
  generalize w6.drewN nd7 = w7 at HB7 HD7 ⊢
  go_wp2_with fail
  refine (HG.out w7).mono ?_
  rintro e w11 ⟨v11, rfl, ho11, hb11⟩
  obtain ⟨A11, c11, e11, h11, hC11⟩ := Kd.R_reads ho11
  subst e11
  have HC11 := Aside0.mk hC11
  have HL11 := Aside0.mk h11
  have HD11 := Aside0.mk hb11
  have HB11 := Aside0.mk (below_step HB7.out hb11)
  clear ho11 hb11 h11 hC11
  go_wp2_with fail
  refine (HT.out w11 (Kd.C_below HC.out HB11.out)).mono ?_
  rintro e w12 ⟨rfl, ⟨nd12, rfl⟩⟩
  have HB12 := Aside0.mk (pw_below_drewN HB11.out nd12)
  have HD12 := Aside0.mk (pw_below_drewN (Below.refl w11.heap.size w11) nd12)
  generalize w11.drewN nd12 = w12 at HB12 HD12 ⊢
  go_wp2_with fail
  refine (HU.out w12).mono ?_
  rintro e w13 ⟨v13, rfl, ho13, hb13⟩
  obtain ⟨A13, c13, e13, h13, hC13⟩ := Kd.R_reads ho13
  subst e13
  have HC13 := Aside0.mk hC13
  have HL13 := Aside0.mk h13
  have HD13 := Aside0.mk hb13
  have HB13 := Aside0.mk (below_step HB12.out hb13)
  clear ho13 hb13 h13 hC13
  go_wp2_with fail
  refine (laws_awakeHeader.calls k r w13 HR.out).mono ?_
  rintro e w20 ⟨rfl, hb20⟩
  have HB20 := Aside0.mk (below_step HB13.out hb20)
  clear hb20
  go_wp2_with fail
  go_ret
  exact ⟨rfl, HB20.out⟩
set_option maxHeartbeats 8000000 in
set_option maxRecDepth 100000 in
theorem HO_Ft (k : Nat) (A0 : Option Addr) (c0 : Nat) (l0 : List (S37)) (a1 a2 : ByteArray) (w : World) (hr0 : Kd.C k37 w A0 l0.length l0) (hc0 : l0.length ≤ c0) (hz : laws_zzFits3.f k l0 = some true) (hs1 : ¬ 2147483647 < a1.size) (hs2 : ¬ 2147483647 < a2.size) (hh : laws_headed.f k l0 = some true) (hk1 : laws_knownKey.f k l0 a1 = some true) (hk2 : laws_knownKey.f k l0 a2 = some true) (s1 s2 : ByteArray) (hl1 : laws_lower.f k a1 = some s1) (hl2 : laws_lower.f k a2 = some s2) (he : ¬ s1.toList = s2.toList) (t : ByteArray) (ht : spec_Header.f k l0 = some t) (v : List Int) (hg : impl_HeaderGet.f t a2 = some (v, true)) (u : List Int) (hu : impl_HeaderRemove.f t a1 = some u) (hn : ¬ u.length = 0) (v2 : List Int) (hg2 : impl_HeaderGetR.f u a2 = some (v2, true)) (v3 : List Int) (hg3 : impl_HeaderGetR.f u a1 = some (v3, false)) (hsb : laws_sameBytes.f k v v2 = some true) (r : Bool) (hr : laws_awakeHeader.f k = some r) :
    Calls Try.prog 3 #[.slice A0 l0.length c0, .string a1, .string a2] w fun e w' => e = .returned (.bool r) ∧ Below w.heap.size w w' := by
  have HC := Aside0.mk hr0
  have HZ := Aside0.mk (laws_zzFits3.calls k A0 c0 l0 true w hr0 hc0 hz)
  have HB0 := Aside0.mk (Below.refl w.heap.size w)
  have q1 : decide ((2147483647 : Int) < (a1.size : Int)) = false := decide_eq_false (by omega)
  have q1n : decide (2147483647 < a1.size) = false := decide_eq_false hs1
  have q2 : decide ((2147483647 : Int) < (a2.size : Int)) = false := decide_eq_false (by omega)
  have q2n : decide (2147483647 < a2.size) = false := decide_eq_false hs2
  have HH := Aside0.mk (fun (W : World) (h : Kd.C k37 W A0 l0.length l0) => laws_headed.calls k A0 c0 l0 true W h hc0 hh)
  have HK1 := Aside0.mk (fun (W : World) (h : Kd.C k37 W A0 l0.length l0) => laws_knownKey.calls k A0 c0 l0 a1 true W h hc0 hk1)
  have HK2 := Aside0.mk (fun (W : World) (h : Kd.C k37 W A0 l0.length l0) => laws_knownKey.calls k A0 c0 l0 a2 true W h hc0 hk2)
  have HL1 := Aside0.mk (fun (W : World) => laws_lower.calls k a1 s1 W hl1)
  have HL2 := Aside0.mk (fun (W : World) => laws_lower.calls k a2 s2 W hl2)
  clear hl1 hl2
  have q5 : (s1.toList == s2.toList) = false := beq_eq_false_iff_ne.2 he
  have q6 : decide (s1.toList = s2.toList) = false := decide_eq_false he
  have HT := Aside0.mk (fun (W : World) (h : Kd.C k37 W A0 l0.length l0) => spec_Header.calls k A0 c0 l0 t W h hc0 ht)
  have HG := Aside0.mk (fun (W : World) => impl_HeaderGet.calls t a2 v true W hg (g := W.heap.size) (c := grownCap W t.size 0 5) rfl (grownCap_ge _ _ _ _))
  have HU := Aside0.mk (fun (W : World) => impl_HeaderRemove.calls t a1 u W hu (g := W.heap.size) (c := grownCap W t.size 0 5) rfl (grownCap_ge _ _ _ _))
  have hkb := fun (s_ : ByteArray) (W_ : World) => print_bytes (P := Try.prog) 9 27 5 Try.underlying9 Try.underlying27 Try.underlying5 s_ W_
  clear ht hg hu
  have qn : ((u.length : Int) == 0) = false := beq_eq_false_iff_ne.2 (by omega)
  have qm : decide (u.length = 0) = false := decide_eq_false hn
  have HG2 := Aside0.mk (fun (W : World) (A : Option Addr) (c : Nat) (h : Kd.C (Kd.int .u8) W A u.length u) (hl : u.length ≤ c) => impl_HeaderGetR.calls A c u a2 v2 true W h hl hg2)
  have HG3 := Aside0.mk (fun (W : World) (A : Option Addr) (c : Nat) (h : Kd.C (Kd.int .u8) W A u.length u) (hl : u.length ≤ c) => impl_HeaderGetR.calls A c u a1 v3 false W h hl hg3)
  have HSB := Aside0.mk hsb
  clear hg2 hg3
  have HR := Aside0.mk hr
  clear hr
  clear hr0 hc0 hz hs1 hs2 hh hk1 hk2 he hn
  have hkb_ : ∀ (s_ : ByteArray) (W_ : World), (convert 9 27 (.string s_)).run Try.prog W_ = .ok (.slice (some ⟨W_.heap.size, 0, none⟩) s_.size (grownCap W_ s_.size 0 5)) (Lib.bytesWorld W_ 5 s_) := fun s_ W_ => print_bytes 9 27 5 Try.underlying9 Try.underlying27 Try.underlying5 s_ W_
  go_enter Try.func3, Try.ntmps3
  go_wp2_with fail
  refine (HZ.out).mono ?_
  rintro e w1 ⟨rfl, hb1⟩
  have HB1 := Aside0.mk (below_step HB0.out hb1)
  clear hb1
  go_wp2_with fail
  refine (HH.out w1 (Kd.C_below HC.out HB1.out)).mono ?_
  rintro e w2 ⟨rfl, hb2⟩
  have HB2 := Aside0.mk (below_step HB1.out hb2)
  clear hb2
  go_wp2_with fail
  refine (HK1.out w2 (Kd.C_below HC.out HB2.out)).mono ?_
  rintro e w3 ⟨rfl, hb3⟩
  have HB3 := Aside0.mk (below_step HB2.out hb3)
  clear hb3
  go_wp2_with fail
  refine (HK2.out w3 (Kd.C_below HC.out HB3.out)).mono ?_
  rintro e w4 ⟨rfl, hb4⟩
  have HB4 := Aside0.mk (below_step HB3.out hb4)
  clear hb4
  go_wp2_with fail
  refine (HL1.out w4).mono ?_
  rintro e w5 ⟨rfl, hb5⟩
  have HB5 := Aside0.mk (below_step HB4.out hb5)
  clear hb5
  go_wp2_with fail
  refine (HL2.out w5).mono ?_
  rintro e w6 ⟨rfl, hb6⟩
  have HB6 := Aside0.mk (below_step HB5.out hb6)
  clear hb6
  go_wp2_with fail
  refine (HT.out w6 (Kd.C_below HC.out HB6.out)).mono ?_
  rintro e w7 ⟨rfl, ⟨nd7, rfl⟩⟩
  have HB7 := Aside0.mk (pw_below_drewN HB6.out nd7)
  have HD7 := Aside0.mk (pw_below_drewN (Below.refl w6.heap.size w6) nd7)
  generalize w6.drewN nd7 = w7 at HB7 HD7 ⊢
  go_wp2_with fail
  refine (HG.out w7).mono ?_
  rintro e w11 ⟨v11, rfl, ho11, hb11⟩
  obtain ⟨A11, c11, e11, h11, hC11⟩ := Kd.R_reads ho11
  subst e11
  have HC11 := Aside0.mk hC11
  have HL11 := Aside0.mk h11
  have HD11 := Aside0.mk hb11
  have HB11 := Aside0.mk (below_step HB7.out hb11)
  clear ho11 hb11 h11 hC11
  go_wp2_with fail
  refine (HT.out w11 (Kd.C_below HC.out HB11.out)).mono ?_
  rintro e w12 ⟨rfl, ⟨nd12, rfl⟩⟩
  have HB12 := Aside0.mk (pw_below_drewN HB11.out nd12)
  have HD12 := Aside0.mk (pw_below_drewN (Below.refl w11.heap.size w11) nd12)
  generalize w11.drewN nd12 = w12 at HB12 HD12 ⊢
  go_wp2_with fail
  refine (HU.out w12).mono ?_
  rintro e w13 ⟨v13, rfl, ho13, hb13⟩
  obtain ⟨A13, c13, e13, h13, hC13⟩ := Kd.R_reads ho13
  subst e13
  have HC13 := Aside0.mk hC13
  have HL13 := Aside0.mk h13
  have HD13 := Aside0.mk hb13
  have HB13 := Aside0.mk (below_step HB12.out hb13)
  clear ho13 hb13 h13 hC13
  go_wp2_with fail
  refine (HG2.out w13 A13 c13 HC13.out HL13.out).mono ?_
  rintro e w14 ⟨v14, rfl, ho14, hb14⟩
  obtain ⟨A14, c14, e14, h14, hC14⟩ := Kd.R_reads ho14
  subst e14
  have HC14 := Aside0.mk hC14
  have HL14 := Aside0.mk h14
  have HD14 := Aside0.mk hb14
  have HB14 := Aside0.mk (below_step HB13.out hb14)
  clear ho14 hb14 h14 hC14
  go_wp2_with fail
  refine (HG3.out w14 A13 c13 (Kd.C_below HC13.out HD14.out) HL13.out).mono ?_
  rintro e w15 ⟨v15, rfl, ho15, hb15⟩
  obtain ⟨A15, c15, e15, h15, hC15⟩ := Kd.R_reads ho15
  subst e15
  have HC15 := Aside0.mk hC15
  have HL15 := Aside0.mk h15
  have HD15 := Aside0.mk hb15
  have HB15 := Aside0.mk (below_step HB14.out hb15)
  clear ho15 hb15 h15 hC15
  go_wp2_with fail
  refine (laws_sameBytes.calls k A11 c11 v A14 c14 v2 true w15 (Kd.C_below HC11.out (below_step (below_step (below_step HD12.out HD13.out) HD14.out) HD15.out)) HL11.out (Kd.C_below HC14.out HD15.out) HL14.out HSB.out).mono ?_
  rintro e w16 ⟨rfl, ⟨nd16, rfl⟩⟩
  have HB16 := Aside0.mk (pw_below_drewN HB15.out nd16)
  generalize w15.drewN nd16 = w16 at HB16 ⊢
  go_wp2_with fail
  refine (laws_awakeHeader.calls k r w16 HR.out).mono ?_
  rintro e w20 ⟨rfl, hb20⟩
  have HB20 := Aside0.mk (below_step HB16.out hb20)
  clear hb20
  go_wp2_with fail
  go_ret
  exact ⟨rfl, HB20.out⟩
set_option maxHeartbeats 8000000 in
set_option maxRecDepth 100000 in
theorem HO_Ff (k : Nat) (A0 : Option Addr) (c0 : Nat) (l0 : List (S37)) (a1 a2 : ByteArray) (w : World) (hr0 : Kd.C k37 w A0 l0.length l0) (hc0 : l0.length ≤ c0) (hz : laws_zzFits3.f k l0 = some true) (hs1 : ¬ 2147483647 < a1.size) (hs2 : ¬ 2147483647 < a2.size) (hh : laws_headed.f k l0 = some true) (hk1 : laws_knownKey.f k l0 a1 = some true) (hk2 : laws_knownKey.f k l0 a2 = some true) (s1 s2 : ByteArray) (hl1 : laws_lower.f k a1 = some s1) (hl2 : laws_lower.f k a2 = some s2) (he : ¬ s1.toList = s2.toList) (t : ByteArray) (ht : spec_Header.f k l0 = some t) (v : List Int) (hg : impl_HeaderGet.f t a2 = some (v, false)) (u : List Int) (hu : impl_HeaderRemove.f t a1 = some u) (hn : ¬ u.length = 0) (v2 : List Int) (hg2 : impl_HeaderGetR.f u a2 = some (v2, false)) (v3 : List Int) (hg3 : impl_HeaderGetR.f u a1 = some (v3, false)) (hsb : laws_sameBytes.f k v v2 = some true) (r : Bool) (hr : laws_awakeHeader.f k = some r) :
    Calls Try.prog 3 #[.slice A0 l0.length c0, .string a1, .string a2] w fun e w' => e = .returned (.bool r) ∧ Below w.heap.size w w' := by
  have HC := Aside0.mk hr0
  have HZ := Aside0.mk (laws_zzFits3.calls k A0 c0 l0 true w hr0 hc0 hz)
  have HB0 := Aside0.mk (Below.refl w.heap.size w)
  have q1 : decide ((2147483647 : Int) < (a1.size : Int)) = false := decide_eq_false (by omega)
  have q1n : decide (2147483647 < a1.size) = false := decide_eq_false hs1
  have q2 : decide ((2147483647 : Int) < (a2.size : Int)) = false := decide_eq_false (by omega)
  have q2n : decide (2147483647 < a2.size) = false := decide_eq_false hs2
  have HH := Aside0.mk (fun (W : World) (h : Kd.C k37 W A0 l0.length l0) => laws_headed.calls k A0 c0 l0 true W h hc0 hh)
  have HK1 := Aside0.mk (fun (W : World) (h : Kd.C k37 W A0 l0.length l0) => laws_knownKey.calls k A0 c0 l0 a1 true W h hc0 hk1)
  have HK2 := Aside0.mk (fun (W : World) (h : Kd.C k37 W A0 l0.length l0) => laws_knownKey.calls k A0 c0 l0 a2 true W h hc0 hk2)
  have HL1 := Aside0.mk (fun (W : World) => laws_lower.calls k a1 s1 W hl1)
  have HL2 := Aside0.mk (fun (W : World) => laws_lower.calls k a2 s2 W hl2)
  clear hl1 hl2
  have q5 : (s1.toList == s2.toList) = false := beq_eq_false_iff_ne.2 he
  have q6 : decide (s1.toList = s2.toList) = false := decide_eq_false he
  have HT := Aside0.mk (fun (W : World) (h : Kd.C k37 W A0 l0.length l0) => spec_Header.calls k A0 c0 l0 t W h hc0 ht)
  have HG := Aside0.mk (fun (W : World) => impl_HeaderGet.calls t a2 v false W hg (g := W.heap.size) (c := grownCap W t.size 0 5) rfl (grownCap_ge _ _ _ _))
  have HU := Aside0.mk (fun (W : World) => impl_HeaderRemove.calls t a1 u W hu (g := W.heap.size) (c := grownCap W t.size 0 5) rfl (grownCap_ge _ _ _ _))
  have hkb := fun (s_ : ByteArray) (W_ : World) => print_bytes (P := Try.prog) 9 27 5 Try.underlying9 Try.underlying27 Try.underlying5 s_ W_
  clear ht hg hu
  have qn : ((u.length : Int) == 0) = false := beq_eq_false_iff_ne.2 (by omega)
  have qm : decide (u.length = 0) = false := decide_eq_false hn
  have HG2 := Aside0.mk (fun (W : World) (A : Option Addr) (c : Nat) (h : Kd.C (Kd.int .u8) W A u.length u) (hl : u.length ≤ c) => impl_HeaderGetR.calls A c u a2 v2 false W h hl hg2)
  have HG3 := Aside0.mk (fun (W : World) (A : Option Addr) (c : Nat) (h : Kd.C (Kd.int .u8) W A u.length u) (hl : u.length ≤ c) => impl_HeaderGetR.calls A c u a1 v3 false W h hl hg3)
  have HSB := Aside0.mk hsb
  clear hg2 hg3
  have HR := Aside0.mk hr
  clear hr
  clear hr0 hc0 hz hs1 hs2 hh hk1 hk2 he hn
  have hkb_ : ∀ (s_ : ByteArray) (W_ : World), (convert 9 27 (.string s_)).run Try.prog W_ = .ok (.slice (some ⟨W_.heap.size, 0, none⟩) s_.size (grownCap W_ s_.size 0 5)) (Lib.bytesWorld W_ 5 s_) := fun s_ W_ => print_bytes 9 27 5 Try.underlying9 Try.underlying27 Try.underlying5 s_ W_
  go_enter Try.func3, Try.ntmps3
  go_wp2_with fail
  refine (HZ.out).mono ?_
  rintro e w1 ⟨rfl, hb1⟩
  have HB1 := Aside0.mk (below_step HB0.out hb1)
  clear hb1
  go_wp2_with fail
  refine (HH.out w1 (Kd.C_below HC.out HB1.out)).mono ?_
  rintro e w2 ⟨rfl, hb2⟩
  have HB2 := Aside0.mk (below_step HB1.out hb2)
  clear hb2
  go_wp2_with fail
  refine (HK1.out w2 (Kd.C_below HC.out HB2.out)).mono ?_
  rintro e w3 ⟨rfl, hb3⟩
  have HB3 := Aside0.mk (below_step HB2.out hb3)
  clear hb3
  go_wp2_with fail
  refine (HK2.out w3 (Kd.C_below HC.out HB3.out)).mono ?_
  rintro e w4 ⟨rfl, hb4⟩
  have HB4 := Aside0.mk (below_step HB3.out hb4)
  clear hb4
  go_wp2_with fail
  refine (HL1.out w4).mono ?_
  rintro e w5 ⟨rfl, hb5⟩
  have HB5 := Aside0.mk (below_step HB4.out hb5)
  clear hb5
  go_wp2_with fail
  refine (HL2.out w5).mono ?_
  rintro e w6 ⟨rfl, hb6⟩
  have HB6 := Aside0.mk (below_step HB5.out hb6)
  clear hb6
  go_wp2_with fail
  refine (HT.out w6 (Kd.C_below HC.out HB6.out)).mono ?_
  rintro e w7 ⟨rfl, ⟨nd7, rfl⟩⟩
  have HB7 := Aside0.mk (pw_below_drewN HB6.out nd7)
  have HD7 := Aside0.mk (pw_below_drewN (Below.refl w6.heap.size w6) nd7)
  generalize w6.drewN nd7 = w7 at HB7 HD7 ⊢
  go_wp2_with fail
  refine (HG.out w7).mono ?_
  rintro e w11 ⟨v11, rfl, ho11, hb11⟩
  obtain ⟨A11, c11, e11, h11, hC11⟩ := Kd.R_reads ho11
  subst e11
  have HC11 := Aside0.mk hC11
  have HL11 := Aside0.mk h11
  have HD11 := Aside0.mk hb11
  have HB11 := Aside0.mk (below_step HB7.out hb11)
  clear ho11 hb11 h11 hC11
  go_wp2_with fail
  refine (HT.out w11 (Kd.C_below HC.out HB11.out)).mono ?_
  rintro e w12 ⟨rfl, ⟨nd12, rfl⟩⟩
  have HB12 := Aside0.mk (pw_below_drewN HB11.out nd12)
  have HD12 := Aside0.mk (pw_below_drewN (Below.refl w11.heap.size w11) nd12)
  generalize w11.drewN nd12 = w12 at HB12 HD12 ⊢
  go_wp2_with fail
  refine (HU.out w12).mono ?_
  rintro e w13 ⟨v13, rfl, ho13, hb13⟩
  obtain ⟨A13, c13, e13, h13, hC13⟩ := Kd.R_reads ho13
  subst e13
  have HC13 := Aside0.mk hC13
  have HL13 := Aside0.mk h13
  have HD13 := Aside0.mk hb13
  have HB13 := Aside0.mk (below_step HB12.out hb13)
  clear ho13 hb13 h13 hC13
  go_wp2_with fail
  refine (HG2.out w13 A13 c13 HC13.out HL13.out).mono ?_
  rintro e w14 ⟨v14, rfl, ho14, hb14⟩
  obtain ⟨A14, c14, e14, h14, hC14⟩ := Kd.R_reads ho14
  subst e14
  have HC14 := Aside0.mk hC14
  have HL14 := Aside0.mk h14
  have HD14 := Aside0.mk hb14
  have HB14 := Aside0.mk (below_step HB13.out hb14)
  clear ho14 hb14 h14 hC14
  go_wp2_with fail
  refine (HG3.out w14 A13 c13 (Kd.C_below HC13.out HD14.out) HL13.out).mono ?_
  rintro e w15 ⟨v15, rfl, ho15, hb15⟩
  obtain ⟨A15, c15, e15, h15, hC15⟩ := Kd.R_reads ho15
  subst e15
  have HC15 := Aside0.mk hC15
  have HL15 := Aside0.mk h15
  have HD15 := Aside0.mk hb15
  have HB15 := Aside0.mk (below_step HB14.out hb15)
  clear ho15 hb15 h15 hC15
  go_wp2_with fail
  refine (laws_sameBytes.calls k A11 c11 v A14 c14 v2 true w15 (Kd.C_below HC11.out (below_step (below_step (below_step HD12.out HD13.out) HD14.out) HD15.out)) HL11.out (Kd.C_below HC14.out HD15.out) HL14.out HSB.out).mono ?_
  rintro e w16 ⟨rfl, ⟨nd16, rfl⟩⟩
  have HB16 := Aside0.mk (pw_below_drewN HB15.out nd16)
  generalize w15.drewN nd16 = w16 at HB16 ⊢
  go_wp2_with fail
  refine (laws_awakeHeader.calls k r w16 HR.out).mono ?_
  rintro e w20 ⟨rfl, hb20⟩
  have HB20 := Aside0.mk (below_step HB16.out hb20)
  clear hb20
  go_wp2_with fail
  go_ret
  exact ⟨rfl, HB20.out⟩
theorem laws_FnHeaderOthers.calls (k : Nat) (A0 : Option Addr) (c0 : Nat) (l0 : List (S37)) (a1 : ByteArray) (a2 : ByteArray) (r : Bool) (w : World) (hr0 : Kd.C k37 w A0 l0.length l0) (hc0 : l0.length ≤ c0) (h : laws_FnHeaderOthers.f k l0 a1 a2 = some r) :
    Calls Try.prog 3 #[.slice A0 l0.length c0, .string a1, .string a2] w fun e w' => e = .returned (.bool r) ∧ Below w.heap.size w w' := by
  unfold laws_FnHeaderOthers.f at h
  obtain ⟨z, hz, h⟩ := Option.bind_eq_some_iff.1 h
  cases z with
  | false =>
    rw [if_pos rfl] at h
    obtain rfl := Option.some.inj h
    exact HO_A k A0 c0 l0 a1 a2 w hr0 hc0 hz
  | true =>
  rw [if_neg (by decide)] at h
  by_cases cs1 : 2147483647 < a1.size
  · rw [if_pos cs1] at h
    obtain rfl := Option.some.inj h
    exact HO_B1 k A0 c0 l0 a1 a2 w hr0 hc0 hz cs1
  rw [if_neg cs1] at h
  by_cases cs2 : 2147483647 < a2.size
  · rw [if_pos cs2] at h
    obtain rfl := Option.some.inj h
    exact HO_B2 k A0 c0 l0 a1 a2 w hr0 hc0 hz cs1 cs2
  rw [if_neg cs2] at h
  unfold laws_FnHeaderOthers.g at h
  obtain ⟨hd, hh, h⟩ := Option.bind_eq_some_iff.1 h
  cases hd with
  | false => rw [if_pos rfl] at h; exact HO_C k A0 c0 l0 a1 a2 w hr0 hc0 hz cs1 cs2 hh r h
  | true =>
  rw [if_neg (by decide)] at h
  obtain ⟨q1, hk1, h⟩ := Option.bind_eq_some_iff.1 h
  cases q1 with
  | false => rw [if_pos rfl] at h; exact HO_D1 k A0 c0 l0 a1 a2 w hr0 hc0 hz cs1 cs2 hh hk1 r h
  | true =>
  rw [if_neg (by decide)] at h
  obtain ⟨q2, hk2, h⟩ := Option.bind_eq_some_iff.1 h
  cases q2 with
  | false => rw [if_pos rfl] at h; exact HO_D2 k A0 c0 l0 a1 a2 w hr0 hc0 hz cs1 cs2 hh hk1 hk2 r h
  | true =>
  rw [if_neg (by decide)] at h
  obtain ⟨s1, hl1, h⟩ := Option.bind_eq_some_iff.1 h
  obtain ⟨s2, hl2, h⟩ := Option.bind_eq_some_iff.1 h
  by_cases he : s1.toList = s2.toList
  · rw [if_pos he] at h; exact HO_D3 k A0 c0 l0 a1 a2 w hr0 hc0 hz cs1 cs2 hh hk1 hk2 s1 s2 hl1 hl2 he r h
  rw [if_neg he] at h
  unfold laws_FnHeaderOthers.h at h
  obtain ⟨t, ht, h⟩ := Option.bind_eq_some_iff.1 h
  obtain ⟨⟨v, ok⟩, hg, h⟩ := Option.bind_eq_some_iff.1 h
  obtain ⟨u, hu, h⟩ := Option.bind_eq_some_iff.1 h
  by_cases hn : u.length = 0
  · rw [if_pos hn] at h
    cases ok with
    | true => simp at h
    | false => rw [if_pos rfl] at h; exact HO_E k A0 c0 l0 a1 a2 w hr0 hc0 hz cs1 cs2 hh hk1 hk2 s1 s2 hl1 hl2 he t ht v hg u hu hn r h
  rw [if_neg hn] at h
  obtain ⟨⟨v2, ok2⟩, hg2, h⟩ := Option.bind_eq_some_iff.1 h
  obtain ⟨⟨v3, ok3⟩, hg3, h⟩ := Option.bind_eq_some_iff.1 h
  by_cases hc : ok2 = ok ∧ ok3 = false
  · rw [if_pos hc] at h
    obtain ⟨rfl, rfl⟩ := hc
    obtain ⟨s, hsb, h'⟩ := Option.bind_eq_some_iff.1 h
    clear h
    cases s with
    | false => rw [if_neg (by decide)] at h'; cases h'
    | true =>
      rw [if_pos rfl] at h'
      cases ok2 with
      | true => exact HO_Ft k A0 c0 l0 a1 a2 w hr0 hc0 hz cs1 cs2 hh hk1 hk2 s1 s2 hl1 hl2 he t ht v hg u hu hn v2 hg2 v3 hg3 hsb r h'
      | false => exact HO_Ff k A0 c0 l0 a1 a2 w hr0 hc0 hz cs1 cs2 hh hk1 hk2 s1 s2 hl1 hl2 he t ht v hg u hu hn v2 hg2 v3 hg3 hsb r h'
  · rw [if_neg hc] at h; cases h
end




end Go.Proofs.Ytmfblbjklmgncaa.PFnHeaderOthers
