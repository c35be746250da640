-- Written by hprint.py (this session's program, over the kit's printing program, with this session's own contracts in it). Not trusted: Lean checks it.
import Derived.Test.YtcnbnljlopopkaaDoorPFnListMatchx0
import Derived.Test.YtcnbnljlopopkaaDoorPFnListMatchx1
namespace Go.Proofs.YtcnbnljlopopkaaDoor.PFnListMatch
open Go.RowKit Go.Proofs.YtcnbnljlopopkaaDoorW.PrintWords Go.Proofs.YtcnbnljlopopkaaDoorW.PrintLast Go.Proofs.YtcnbnljlopopkaaDoorW.PrintMore
attribute [local go_sem] max2_int min2_int max_two min_two max_three min_three max_four min_four   -- for this text's walks alone
set_option linter.unusedVariables false
set_option linter.unusedSimpArgs false

/-! ### spec_matches: function 33 -/
def spec_matches.l0 : Nat → List ByteArray → List ByteArray → Int → Option (Bool)
 | 0, _, _, _ => none
 | k + 1, x0, x1, x5 => if x5 < (x1.length : Int) then (if x5 ≥ (x0.length : Int) then (some false) else (if 0 ≤ x5 then (if (rdOf ByteArray.empty x1 x5).toList = ([62] : List UInt8) then (some true) else (if (rdOf ByteArray.empty x1 x5).toList = ([42] : List UInt8) then (spec_matches.l0 k x0 x1 (wrap64 (x5 + 1))) else (if x5 < (x0.length : Int) then (if (rdOf ByteArray.empty x1 x5).toList = (rdOf ByteArray.empty x0 x5).toList then (spec_matches.l0 k x0 x1 (wrap64 (x5 + 1))) else (some false)) else (none)))) else (none))) else (some ((x0.length : Int) == (x1.length : Int)))
def spec_matches.f (k : Nat) (l0 : List ByteArray) (l1 : List ByteArray) : Option (Bool) := spec_matches.l0 k l0 l1 0
theorem spec_matches.mono_l : ∀ k, (∀ y0 y1 y2, LeO (spec_matches.l0 k y0 y1 y2) (spec_matches.l0 (k + 1) y0 y1 y2))
 | 0 => fun _ _ _ r h => by simp [spec_matches.l0] at h
 | k + 1 => by
  have ih0 := spec_matches.mono_l k
  ·
   intro y0 y1 y2
   unfold spec_matches.l0
   repeat' first
   | (with_reducible exact ih0 _ _ _)
   | (with_reducible exact LeO.refl _)
   | (with_reducible exact LeO.none _)
   | (with_reducible refine LeO.ite ?_ ?_)
   | (with_reducible refine LeO.bind ?_ (fun _ => ?_))
   | exact ih0 _ _ _
   | exact LeO.none _
   | refine LeO.ite ?_ ?_
   | refine LeO.bind ?_ (fun _ => ?_)
theorem spec_matches.mono : ∀ a0 a1 k, LeO (spec_matches.f k a0 a1) (spec_matches.f (k + 1) a0 a1) := by
 intro a0 a1 k
 have ih0 := spec_matches.mono_l k
 unfold spec_matches.f
 repeat' first
   | (with_reducible exact ih0 _ _ _)
   | (with_reducible exact LeO.refl _)
   | (with_reducible exact LeO.none _)
   | (with_reducible refine LeO.ite ?_ ?_)
   | (with_reducible refine LeO.bind ?_ (fun _ => ?_))
   | exact ih0 _ _ _
   | exact LeO.none _
   | refine LeO.ite ?_ ?_
   | refine LeO.bind ?_ (fun _ => ?_)
set_option maxHeartbeats 8000000 in
set_option maxRecDepth 100000 in
theorem spec_matches.calls (k : Nat) (A0 : Option Addr) (c0 : Nat) (l0 : List ByteArray) (A1 : Option Addr) (c1 : Nat) (l1 : List ByteArray) (r : Bool) (w : World) (hr0 : Kd.C Kd.string w A0 l0.length l0) (hc0 : l0.length ≤ c0) (hr1 : Kd.C Kd.string w A1 l1.length l1) (hc1 : l1.length ≤ c1) (h : spec_matches.f k l0 l1 = some r) :
  Calls Tryd.prog 33 #[.slice A0 l0.length c0, .slice A1 l1.length c1] w fun e w' => e = .returned (.bool r) ∧ Drawn0 w w' := by
 have HR0 := Aside0.mk hr0
 have HC0 := Aside0.mk hc0
 clear hr0 hc0
 have HR1 := Aside0.mk hr1
 have HC1 := Aside0.mk hc1
 clear hr1 hc1
 have H : (spec_matches.l0 k l0 l1 0) = some r := h
 clear h
 have H' := Aside0.mk H
 clear H
 go_enter Tryd.func33, Tryd.ntmps33
 go_wp2
 repeat (go_quiet (fail); try go_wp2)
 go_loopg [5] k (fun kq v5 w' => ∃ (x5_1 : Int), v5 = .int .i64 x5_1 ∧ Aside0 (spec_matches.l0 kq l0 l1 x5_1 = some r) ∧ Aside0 (kq ≤ k) ∧ Drawn0 w w')
 case atStart => exact ⟨(0), (by first | rfl | (simp; done) | (simp [*]; done)), H', ⟨Nat.le_refl _⟩, by repeat (first | exact Drawn0.refl _ | apply Drawn0.step)⟩
 case round =>
  clear H'
  try clear c1
  try clear p2
  obtain ⟨x5_1, rfl, HA, HK1, ⟨m1, rfl⟩⟩ := hrel
  cases gk with
  | zero => exact absurd HA.out (by simp [spec_matches.l0])
  | succ k1 =>
   have H := HA.out
   clear HA
   simp only [spec_matches.l0] at H
   by_cases c3 : x5_1 < (l1.length : Int)
   ·
    rw [if_pos c3] at H
    have c3b0 : decide (x5_1 < (l1.length : Int)) = true := decide_eq_true c3
    clear c3
    by_cases c4 : x5_1 ≥ (l0.length : Int)
    ·
     rw [if_pos c4] at H
     have c4b0 : decide ((l0.length : Int) ≤ x5_1) = true := decide_eq_true c4
     clear c4
     obtain rfl := Option.some.inj H
     go_wp2
     repeat (go_quiet (fail); try go_wp2)
     go_ret
     exact ⟨by first | rfl | (simp; done) | (simp [*]; done) | (simp; generalize ByteArray.toList _ = l_; cases l_ <;> rfl), by repeat (first | exact Drawn0.refl _ | apply Drawn0.step)⟩
    ·
     rw [if_neg c4] at H
     have c4b0 : decide ((l0.length : Int) ≤ x5_1) = false := decide_eq_false c4
     clear c4
     by_cases c5 : 0 ≤ x5_1
     ·
      rw [if_pos c5] at H
      have c5b0 : decide (0 ≤ x5_1) = true := decide_eq_true c5
      clear c5
      by_cases c6 : (rdOf ByteArray.empty l1 x5_1).toList = ([62] : List UInt8)
      ·
       rw [if_pos c6] at H
       have c6b0 : ((rdOf ByteArray.empty l1 x5_1).toList == ([62] : List UInt8)) = true := beq_iff_eq.mpr c6
       have c6b1 : ((rdOf ByteArray.empty l1 x5_1).toList != ([62] : List UInt8)) = false := bne_eq_false_iff_eq.mpr c6
       clear c6
       obtain rfl := Option.some.inj H
       have p199 : 0 ≤ (x5_1 : Int) := of_decide_eq_true (by first | (with_reducible assumption) | assumption)
       have q199 : x5_1 < (l1.length : Int) := of_decide_eq_true (by first | (with_reducible assumption) | assumption)
       obtain ⟨ad199, e199, hx199_0⟩ := Kd.at_string HR1.out x5_1 p199 q199
       cases e199
       replace p199 := eq_true p199
       replace q199 := eq_true q199
       go_wp2
       repeat (go_quiet (fail); try go_wp2)
       go_ret
       exact ⟨by first | rfl | (simp; done) | (simp [*]; done) | (simp; generalize ByteArray.toList _ = l_; cases l_ <;> rfl), by repeat (first | exact Drawn0.refl _ | apply Drawn0.step)⟩
      ·
       rw [if_neg c6] at H
       have c6b0 : ((rdOf ByteArray.empty l1 x5_1).toList == ([62] : List UInt8)) = false := beq_eq_false_iff_ne.mpr c6
       have c6b1 : ((rdOf ByteArray.empty l1 x5_1).toList != ([62] : List UInt8)) = true := bne_iff_ne.mpr c6
       by_cases c7 : (rdOf ByteArray.empty l1 x5_1).toList = ([42] : List UInt8)
       ·
        rw [if_pos c7] at H
        have c7b0 : ((rdOf ByteArray.empty l1 x5_1).toList == ([42] : List UInt8)) = true := beq_iff_eq.mpr c7
        have c7b1 : ((rdOf ByteArray.empty l1 x5_1).toList != ([42] : List UInt8)) = false := bne_eq_false_iff_eq.mpr c7
        clear c7
        have H' := Aside0.mk H
        clear H
        have p199 : 0 ≤ (x5_1 : Int) := of_decide_eq_true (by first | (with_reducible assumption) | assumption)
        have q199 : x5_1 < (l1.length : Int) := of_decide_eq_true (by first | (with_reducible assumption) | assumption)
        obtain ⟨ad199, e199, hx199_0⟩ := Kd.at_string HR1.out x5_1 p199 q199
        cases e199
        replace p199 := eq_true p199
        replace q199 := eq_true q199
        have p200 : 0 ≤ (x5_1 : Int) := of_decide_eq_true (by first | (with_reducible assumption) | assumption)
        have q200 : x5_1 < (l1.length : Int) := of_decide_eq_true (by first | (with_reducible assumption) | assumption)
        obtain ⟨ad200, e200, hx200_0⟩ := Kd.at_string HR1.out x5_1 p200 q200
        obtain rfl : ad199 = ad200 := (by injection e200)
        replace p200 := eq_true p200
        replace q200 := eq_true q200
        go_wp2
        repeat (go_quiet (fail); try go_wp2)
        go_roundg k1
        case measure => have := HK1.out; omega
        case rel => exact ⟨(wrap64 (x5_1 + 1)), (by first | rfl | (simp; done) | (simp [*]; done)), H', ⟨by have := HK1.out; omega⟩, by repeat (first | exact Drawn0.refl _ | apply Drawn0.step)⟩
       ·
        rw [if_neg c7] at H
        have c7b0 : ((rdOf ByteArray.empty l1 x5_1).toList == ([42] : List UInt8)) = false := beq_eq_false_iff_ne.mpr c7
        have c7b1 : ((rdOf ByteArray.empty l1 x5_1).toList != ([42] : List UInt8)) = true := bne_iff_ne.mpr c7
        by_cases c8 : x5_1 < (l0.length : Int)
        ·
         rw [if_pos c8] at H
         have c8b0 : decide (x5_1 < (l0.length : Int)) = true := decide_eq_true c8
         clear c8
         by_cases c9 : (rdOf ByteArray.empty l1 x5_1).toList = (rdOf ByteArray.empty l0 x5_1).toList
         ·
          rw [if_pos c9] at H
          have c9b0 : ((rdOf ByteArray.empty l1 x5_1).toList == (rdOf ByteArray.empty l0 x5_1).toList) = true := beq_iff_eq.mpr c9
          have c9b1 : ((rdOf ByteArray.empty l1 x5_1).toList != (rdOf ByteArray.empty l0 x5_1).toList) = false := bne_eq_false_iff_eq.mpr c9
          clear c9
          have H' := Aside0.mk H
          clear H
          have p199 : 0 ≤ (x5_1 : Int) := of_decide_eq_true (by first | (with_reducible assumption) | assumption)
          have q199 : x5_1 < (l1.length : Int) := of_decide_eq_true (by first | (with_reducible assumption) | assumption)
          obtain ⟨ad199, e199, hx199_0⟩ := Kd.at_string HR1.out x5_1 p199 q199
          cases e199
          replace p199 := eq_true p199
          replace q199 := eq_true q199
          have p200 : 0 ≤ (x5_1 : Int) := of_decide_eq_true (by first | (with_reducible assumption) | assumption)
          have q200 : x5_1 < (l1.length : Int) := of_decide_eq_true (by first | (with_reducible assumption) | assumption)
          obtain ⟨ad200, e200, hx200_0⟩ := Kd.at_string HR1.out x5_1 p200 q200
          obtain rfl : ad199 = ad200 := (by injection e200)
          replace p200 := eq_true p200
          replace q200 := eq_true q200
          have p201 : 0 ≤ (x5_1 : Int) := of_decide_eq_true (by first | (with_reducible assumption) | assumption)
          have q201 : x5_1 < (l1.length : Int) := of_decide_eq_true (by first | (with_reducible assumption) | assumption)
          obtain ⟨ad201, e201, hx201_0⟩ := Kd.at_string HR1.out x5_1 p201 q201
          obtain rfl : ad199 = ad201 := (by injection e201)
          replace p201 := eq_true p201
          replace q201 := eq_true q201
          have p202 : 0 ≤ (x5_1 : Int) := of_decide_eq_true (by first | (with_reducible assumption) | assumption)
          have q202 : x5_1 < (l0.length : Int) := of_decide_eq_true (by first | (with_reducible assumption) | assumption)
          obtain ⟨ad202, e202, hx202_0⟩ := Kd.at_string HR0.out x5_1 p202 q202
          cases e202
          replace p202 := eq_true p202
          replace q202 := eq_true q202
          go_wp2
          repeat (go_quiet (fail); try go_wp2)
          go_roundg k1
          case measure => have := HK1.out; omega
          case rel => exact ⟨(wrap64 (x5_1 + 1)), (by first | rfl | (simp; done) | (simp [*]; done)), H', ⟨by have := HK1.out; omega⟩, by repeat (first | exact Drawn0.refl _ | apply Drawn0.step)⟩
         ·
          rw [if_neg c9] at H
          have c9b0 : ((rdOf ByteArray.empty l1 x5_1).toList == (rdOf ByteArray.empty l0 x5_1).toList) = false := beq_eq_false_iff_ne.mpr c9
          have c9b1 : ((rdOf ByteArray.empty l1 x5_1).toList != (rdOf ByteArray.empty l0 x5_1).toList) = true := bne_iff_ne.mpr c9
          obtain rfl := Option.some.inj H
          have p199 : 0 ≤ (x5_1 : Int) := of_decide_eq_true (by first | (with_reducible assumption) | assumption)
          have q199 : x5_1 < (l1.length : Int) := of_decide_eq_true (by first | (with_reducible assumption) | assumption)
          obtain ⟨ad199, e199, hx199_0⟩ := Kd.at_string HR1.out x5_1 p199 q199
          cases e199
          replace p199 := eq_true p199
          replace q199 := eq_true q199
          have p200 : 0 ≤ (x5_1 : Int) := of_decide_eq_true (by first | (with_reducible assumption) | assumption)
          have q200 : x5_1 < (l1.length : Int) := of_decide_eq_true (by first | (with_reducible assumption) | assumption)
          obtain ⟨ad200, e200, hx200_0⟩ := Kd.at_string HR1.out x5_1 p200 q200
          obtain rfl : ad199 = ad200 := (by injection e200)
          replace p200 := eq_true p200
          replace q200 := eq_true q200
          have p201 : 0 ≤ (x5_1 : Int) := of_decide_eq_true (by first | (with_reducible assumption) | assumption)
          have q201 : x5_1 < (l1.length : Int) := of_decide_eq_true (by first | (with_reducible assumption) | assumption)
          obtain ⟨ad201, e201, hx201_0⟩ := Kd.at_string HR1.out x5_1 p201 q201
          obtain rfl : ad199 = ad201 := (by injection e201)
          replace p201 := eq_true p201
          replace q201 := eq_true q201
          have p202 : 0 ≤ (x5_1 : Int) := of_decide_eq_true (by first | (with_reducible assumption) | assumption)
          have q202 : x5_1 < (l0.length : Int) := of_decide_eq_true (by first | (with_reducible assumption) | assumption)
          obtain ⟨ad202, e202, hx202_0⟩ := Kd.at_string HR0.out x5_1 p202 q202
          cases e202
          replace p202 := eq_true p202
          replace q202 := eq_true q202
          go_wp2
          repeat (go_quiet (fail); try go_wp2)
          go_ret
          exact ⟨by first | rfl | (simp; done) | (simp [*]; done) | (simp; generalize ByteArray.toList _ = l_; cases l_ <;> rfl), by repeat (first | exact Drawn0.refl _ | apply Drawn0.step)⟩
        ·
         rw [if_neg c8] at H
         exact absurd H (by simp)
     ·
      rw [if_neg c5] at H
      exact absurd H (by simp)
   ·
    rw [if_neg c3] at H
    have c3b0 : decide (x5_1 < (l1.length : Int)) = false := decide_eq_false c3
    clear c3
    obtain rfl := Option.some.inj H
    go_wp2
    repeat (go_quiet (fail); try go_wp2)
    go_ret
    exact ⟨by first | rfl | (simp; done) | (simp [*]; done) | (simp; generalize ByteArray.toList _ = l_; cases l_ <;> rfl), by repeat (first | exact Drawn0.refl _ | apply Drawn0.step)⟩

/-! ### spec_Match: function 12 -/
def spec_Match.f (k : Nat) (a0 : ByteArray) (a1 : ByteArray) : Option (Bool) := (spec_Tokens.f k a0).bind fun t203 => ((spec_Tokens.f k a1).bind fun t206 => ((spec_matches.f k t203 t206).bind fun t209 => (some t209)))
theorem spec_Match.mono : ∀ a0 a1 k, LeO (spec_Match.f k a0 a1) (spec_Match.f (k + 1) a0 a1) := by
 intro a0 a1 k
 unfold spec_Match.f
 repeat' first
   | (with_reducible exact spec_Tokens.mono _ _)
   | (with_reducible exact spec_matches.mono _ _ _)
   | (with_reducible exact LeO.refl _)
   | (with_reducible exact LeO.none _)
   | (with_reducible refine LeO.ite ?_ ?_)
   | (with_reducible refine LeO.bind ?_ (fun _ => ?_))
   | exact spec_Tokens.mono _ _
   | exact spec_matches.mono _ _ _
   | exact LeO.none _
   | refine LeO.ite ?_ ?_
   | refine LeO.bind ?_ (fun _ => ?_)
set_option maxHeartbeats 8000000 in
set_option maxRecDepth 100000 in
theorem spec_Match.calls (k : Nat) (a0 : ByteArray) (a1 : ByteArray) (r : Bool) (w : World) (h : spec_Match.f k a0 a1 = some r) :
  Calls Tryd.prog 12 #[.string a0, .string a1] w fun e w' => e = .returned (.bool r) ∧ Below w.heap.size w w' := by
 have HB := Aside0.mk (Below.refl w.heap.size w)
 have H : ((spec_Tokens.f k a0).bind fun t203 => ((spec_Tokens.f k a1).bind fun t206 => ((spec_matches.f k t203 t206).bind fun t209 => (some t209)))) = some r := h
 clear h
 replace H := Option.bind_eq_some_iff.mp H
 obtain ⟨t203, A30, H⟩ := H
 replace H : ((spec_Tokens.f k a1).bind fun t206 => ((spec_matches.f k t203 t206).bind fun t209 => (some t209))) = some r := H
 have A3 := Aside0.mk A30
 clear A30
 replace H := Option.bind_eq_some_iff.mp H
 obtain ⟨t206, A40, H⟩ := H
 replace H : ((spec_matches.f k t203 t206).bind fun t209 => (some t209)) = some r := H
 have A4 := Aside0.mk A40
 clear A40
 replace H := Option.bind_eq_some_iff.mp H
 obtain ⟨t209, A50, H⟩ := H
 replace H : (some t209) = some r := H
 have A5 := Aside0.mk A50
 clear A50
 obtain rfl := Option.some.inj H
 go_enter Tryd.func12, Tryd.ntmps12
 go_wp2_with (first | ((with_reducible refine gate_callee (f := 32) rfl ?_); refine goesL_ (some 6) rfl rfl Tryd.func32 (by kernel_rfl) rfl #[.string a0] rfl (by (try simp only [List.map_toArray, List.map_cons, List.map_nil]); first | done | rfl | (simp only [List.length_drop, List.length_take]; rfl)) ?_; (with_reducible refine (spec_Tokens.calls k a0 t203 _ A3.out).mono ?_); rintro e w6 ⟨v204, rfl, ho0, hb⟩; refine ⟨_, rfl, ?_⟩; have n0_ := Aside0.mk (Kd.R_lower ho0 (below_size (by repeat (first | (with_reducible first | exact HB.out | apply below_alloc | apply pw_below_drewN | apply below_drew1) | exact HB.out)))); have n1_ := Aside0.mk (below_step (by repeat (first | (with_reducible first | exact HB.out | apply below_alloc | apply pw_below_drewN | apply below_drew1) | exact HB.out)) hb); clear HB; have HO205 := n0_; have HB := n1_; clear n0_ n1_; (try clear hb); (try clear hb2); (try clear hk); (try clear hi); (try clear ho0)) | ((with_reducible refine gate_callee (f := 32) rfl ?_); refine goesL_ (some 8) rfl rfl Tryd.func32 (by kernel_rfl) rfl #[.string a1] rfl (by (try simp only [List.map_toArray, List.map_cons, List.map_nil]); first | done | rfl | (simp only [List.length_drop, List.length_take]; rfl)) ?_; (with_reducible refine (spec_Tokens.calls k a1 t206 _ A4.out).mono ?_); rintro e w7 ⟨v207, rfl, ho0, hb⟩; refine ⟨_, rfl, ?_⟩; have n0_ := Aside0.mk (Kd.R_elder' (by (with_reducible repeat (first | apply Kd.R_alloc | apply Kd.R_drewN | apply Kd.R_drew)); exact HO205.out) (Kd.R_base ho0) hb); have n1_ := Aside0.mk (Kd.R_lower (Kd.R_new' ho0 (Kd.R_lt (by (with_reducible repeat (first | apply Kd.R_alloc | apply Kd.R_drewN | apply Kd.R_drew)); exact HO205.out))) (below_size (by repeat (first | (with_reducible first | exact HB.out | apply below_alloc | apply pw_below_drewN | apply below_drew1) | exact HB.out)))); have n2_ := Aside0.mk (below_step (by repeat (first | (with_reducible first | exact HB.out | apply below_alloc | apply pw_below_drewN | apply below_drew1) | exact HB.out)) hb); clear HO205; clear HB; have HO205 := n0_; have HO208 := n1_; have HB := n2_; clear n0_ n1_ n2_; (try clear hb); (try clear hb2); (try clear hk); (try clear hi); (try clear ho0); obtain ⟨Ao8, co8, eo8⟩ := Kd.R_slice HO205.out; subst eo8; obtain ⟨Ao9, co9, eo9⟩ := Kd.R_slice HO208.out; subst eo9) | ((with_reducible refine gate_callee (f := 33) rfl ?_); refine goesL_ (some 9) rfl rfl Tryd.func33 (by kernel_rfl) rfl #[.slice Ao8 t203.length co8, .slice Ao9 t206.length co9] rfl (by (try simp only [List.map_toArray, List.map_cons, List.map_nil]); first | done | rfl | (simp only [List.length_drop, List.length_take]; rfl)) ?_; (with_reducible refine (spec_matches.calls k _ _ t203 _ _ t206 t209 _ ?side1 ?side2 ?side3 ?side4 A5.out).mono ?_); (case side1 => repeat (first | exact (Kd.R_reads' HO205.out).2.2 | (with_reducible refine Kd.C_alloc ?_ _) | (with_reducible refine Kd.C_drewN ?_ _) | (with_reducible refine Kd.C_drew ?_))); (case side2 => exact (Kd.R_reads' HO205.out).2.1); (case side3 => repeat (first | exact (Kd.R_reads' HO208.out).2.2 | (with_reducible refine Kd.C_alloc ?_ _) | (with_reducible refine Kd.C_drewN ?_ _) | (with_reducible refine Kd.C_drew ?_))); (case side4 => exact (Kd.R_reads' HO208.out).2.1); rintro e w' ⟨rfl, ⟨nd, rfl⟩⟩; refine ⟨_, rfl, ?_⟩))
 go_ret
 exact ⟨by first | rfl | (simp [errW_none, errW_some] <;> rfl) | (simp [*, errW_none, errW_some] <;> rfl) | (simp [errW_none, errW_some]; generalize ByteArray.toList _ = l_; cases l_ <;> rfl), by repeat (first | (with_reducible first | exact HB.out | apply below_alloc | apply pw_below_drewN | apply below_drew1) | exact HB.out)⟩

/-! ### spec_Values: function 21 -/
def spec_Values.l0 : Nat → List (S31) → ByteArray → List Int → Int → Option (List Int)
 | 0, _, _, _, _ => none
 | k + 1, x0, x1, x5, x6 => if x6 < (x0.length : Int) then (if 0 ≤ x6 then ((spec_Match.f k x1 ((rd_T31 x0 x6).f0)).bind fun t211 => (if t211 = true then (if x5.length < 17592186044416 then (spec_Values.l0 k x0 x1 (x5 ++ [(rd_T31 x0 x6).f1]) (wrap64 (x6 + 1))) else (none)) else (spec_Values.l0 k x0 x1 x5 (wrap64 (x6 + 1))))) else (none)) else (some x5)
def spec_Values.f (k : Nat) (l0 : List (S31)) (a1 : ByteArray) : Option (List Int) := spec_Values.l0 k l0 a1 ([] : List Int) 0
theorem spec_Values.mono_l : ∀ k, (∀ y0 y1 y2 y3, LeO (spec_Values.l0 k y0 y1 y2 y3) (spec_Values.l0 (k + 1) y0 y1 y2 y3))
 | 0 => fun _ _ _ _ r h => by simp [spec_Values.l0] at h
 | k + 1 => by
  have ih0 := spec_Values.mono_l k
  ·
   intro y0 y1 y2 y3
   unfold spec_Values.l0
   repeat' first
   | (with_reducible exact ih0 _ _ _ _)
   | (with_reducible exact spec_Match.mono _ _ _)
   | (with_reducible exact LeO.refl _)
   | (with_reducible exact LeO.none _)
   | (with_reducible refine LeO.ite ?_ ?_)
   | (with_reducible refine LeO.bind ?_ (fun _ => ?_))
   | exact ih0 _ _ _ _
   | exact spec_Match.mono _ _ _
   | exact LeO.none _
   | refine LeO.ite ?_ ?_
   | refine LeO.bind ?_ (fun _ => ?_)
theorem spec_Values.mono : ∀ a0 a1 k, LeO (spec_Values.f k a0 a1) (spec_Values.f (k + 1) a0 a1) := by
 intro a0 a1 k
 have ih0 := spec_Values.mono_l k
 unfold spec_Values.f
 repeat' first
   | (with_reducible exact ih0 _ _ _ _)
   | (with_reducible exact spec_Match.mono _ _ _)
   | (with_reducible exact LeO.refl _)
   | (with_reducible exact LeO.none _)
   | (with_reducible refine LeO.ite ?_ ?_)
   | (with_reducible refine LeO.bind ?_ (fun _ => ?_))
   | exact ih0 _ _ _ _
   | exact spec_Match.mono _ _ _
   | exact LeO.none _
   | refine LeO.ite ?_ ?_
   | refine LeO.bind ?_ (fun _ => ?_)
set_option maxHeartbeats 8000000 in
set_option maxRecDepth 100000 in
theorem spec_Values.calls (k : Nat) (A0 : Option Addr) (c0 : Nat) (l0 : List (S31)) (a1 : ByteArray) (r : List Int) (w : World) (hr0 : Kd.C k31 w A0 l0.length l0) (hc0 : l0.length ≤ c0) (h : spec_Values.f k l0 a1 = some r) :
  Calls Tryd.prog 21 #[.slice A0 l0.length c0, .string a1] w fun e w' => ∃ v0_ : Value, e = .returned (v0_) ∧ Kd.R (Kd.int .i64) 3 w' w.heap.size (fun _ => True) v0_ r ∧ Below w.heap.size w w' := by
 have HR0 := Aside0.mk hr0
 have HC0 := Aside0.mk hc0
 clear hr0 hc0
 have HB := Aside0.mk (Below.refl w.heap.size w)
 have H : (spec_Values.l0 k l0 a1 ([] : List Int) 0) = some r := h
 clear h
 have H' := Aside0.mk H
 clear H
 go_enter Tryd.func21, Tryd.ntmps21
 go_wp2
 go_loopg [5, 6] k (fun kq v5 v6 w' => ∃ (x5_1 : List Int) (x6_1 : Int), v6 = .int .i64 x6_1 ∧ Aside0 (spec_Values.l0 kq l0 a1 x5_1 x6_1 = some r) ∧ Aside0 (kq ≤ k) ∧ Aside0 (Kd.R (Kd.int .i64) 3 w' w.heap.size (fun _ => True) v5 x5_1) ∧ Aside0 (Below w.heap.size w w'))
 case atStart => exact ⟨(([] : List Int)), (0), (by first | rfl | (simp; done) | (simp [*]; done)), H', ⟨Nat.le_refl _⟩, ⟨by first | exact Kd.R_nil _ _ _ _ _ | exact Kd.N_nil _ _ _ _ _ | exact Kd.V_nil _ _ _ _ _ | exact Kd.Q_nil _ _ _ _ _ | exact Kd.S_nil _ _ _ _ _⟩, ⟨by repeat (first | (with_reducible first | exact HB.out | apply below_alloc | apply pw_below_drewN | apply below_drew1) | exact HB.out)⟩⟩
 case round =>
  clear H'
  try clear c2
  try clear p2
  obtain ⟨x5_1, x6_1, rfl, HA, HK1, HO_5, HB⟩ := hrel
  cases gk with
  | zero => exact absurd HA.out (by simp [spec_Values.l0])
  | succ k1 =>
   have H := HA.out
   clear HA
   simp only [spec_Values.l0] at H
   by_cases c3 : x6_1 < (l0.length : Int)
   ·
    rw [if_pos c3] at H
    have c3b0 : decide (x6_1 < (l0.length : Int)) = true := decide_eq_true c3
    clear c3
    by_cases c4 : 0 ≤ x6_1
    ·
     rw [if_pos c4] at H
     have c4b0 : decide (0 ≤ x6_1) = true := decide_eq_true c4
     clear c4
     replace H := Option.bind_eq_some_iff.mp H
     obtain ⟨t211, A50, H⟩ := H
     replace H : (if t211 = true then (if x5_1.length < 17592186044416 then (spec_Values.l0 k1 l0 a1 (x5_1 ++ [(rd_T31 l0 x6_1).f1]) (wrap64 (x6_1 + 1))) else (none)) else (spec_Values.l0 k1 l0 a1 x5_1 (wrap64 (x6_1 + 1)))) = some r := H
     have A5 := Aside0.mk A50
     clear A50
     by_cases c6 : t211 = true
     ·
      subst c6
      have H1 : (if x5_1.length < 17592186044416 then (spec_Values.l0 k1 l0 a1 (x5_1 ++ [(rd_T31 l0 x6_1).f1]) (wrap64 (x6_1 + 1))) else (none)) = some r := by rw [if_pos rfl] at H; exact H
      clear H
      have H := H1
      clear H1
      by_cases c7 : x5_1.length < 17592186044416
      ·
       rw [if_pos c7] at H
       have LMc7 := Aside0.mk c7
       clear c7
       obtain ⟨y213, hy213⟩ : ∃ y_ : List Int, y_ = (x5_1 ++ [(rd_T31 l0 x6_1).f1]) := ⟨_, rfl⟩
       replace H : (spec_Values.l0 k1 l0 a1 y213 (wrap64 (x6_1 + 1))) = some r := by first | (rw [hy213]; with_reducible exact H) | (have H2_ := (Option.bind_some _ _).symm.trans H; rw [hy213]; with_reducible exact H2_) | (have H2_ := (Option.bind_some _ _).symm.trans H; with_reducible exact H2_) | with_reducible exact H | (rw [hy213]; exact H) | exact H
       have Ny213 := Aside0.mk hy213
       clear hy213
       have H' := Aside0.mk H
       clear H
       have p210 : 0 ≤ (x6_1 : Int) := of_decide_eq_true (by first | (with_reducible assumption) | assumption)
       have q210 : x6_1 < (l0.length : Int) := of_decide_eq_true (by first | (with_reducible assumption) | assumption)
       obtain ⟨ad210, e210, hx210_0, hx210_1⟩ := at_T31 HR0.out x6_1 p210 q210
       cases e210
       replace hx210_0 := (HB.out.cell (World.block_lt_of_cell? w _ hx210_0)).trans hx210_0
       replace hx210_1 := (HB.out.cell (World.block_lt_of_cell? w _ hx210_1)).trans hx210_1
       replace p210 := eq_true p210
       replace q210 := eq_true q210
       go_wp2_with (first | ((with_reducible refine gate_callee (f := 12) rfl ?_); refine goesL_ (some 19) rfl rfl Tryd.func12 (by kernel_rfl) rfl #[.string a1, .string ((rd_T31 l0 x6_1).f0)] rfl (by (try simp only [List.map_toArray, List.map_cons, List.map_nil]); first | done | rfl | (simp only [List.length_drop, List.length_take]; rfl)) ?_; (with_reducible refine (spec_Match.calls k1 a1 ((rd_T31 l0 x6_1).f0) true _ A5.out).mono ?_); rintro e w8 ⟨rfl, hb⟩; refine ⟨_, rfl, ?_⟩; have n0_ := Aside0.mk (Kd.R_below (by (with_reducible repeat (first | apply Kd.R_alloc | apply Kd.R_drewN | apply Kd.R_drew)); exact HO_5.out) hb); have n1_ := Aside0.mk (below_step (by repeat (first | (with_reducible first | exact HB.out | apply below_alloc | apply pw_below_drewN | apply below_drew1) | exact HB.out)) hb); clear HO_5; clear HB; have HO_5 := n0_; have HB := n1_; clear n0_ n1_; (try clear hb); (try clear hb2); (try clear hk); (try clear hi); have p212 : 0 ≤ (x6_1 : Int) := of_decide_eq_true (by first | (with_reducible assumption) | assumption); have q212 : x6_1 < (l0.length : Int) := of_decide_eq_true (by first | (with_reducible assumption) | assumption); obtain ⟨ad212, e212, hx212_0, hx212_1⟩ := at_T31 HR0.out x6_1 p212 q212; obtain rfl : ad210 = ad212 := (by injection e212); replace hx212_0 := (HB.out.cell (World.block_lt_of_cell? w _ hx212_0)).trans hx212_0; replace hx212_1 := (HB.out.cell (World.block_lt_of_cell? w _ hx212_1)).trans hx212_1; replace p212 := eq_true p212; replace q212 := eq_true q212) | ((with_reducible refine gate_builtin (b := .append) (xs := #[.tmp 20, .tmp 26]) rfl ?_); at_builtin; refine Kd.R_append (Kd.int .i64) (w0 := w) w.heap.size rfl (.tmp 20) (.tmp 26) 40 3 (.int .i64 0) 8 rfl Tryd.underlying40 info3 rfl (by decide) (by omega) u5 x5_1 ((rd_T31 l0 x6_1).f1) [.int .i64 ((rd_T31 l0 x6_1).f1)] (fun _ => True) (fun _ => False) rfl rfl ?aP (fun _ hk => hk.elim) ?aF ?aO ?aB ?aS ?aL ?_; (case aP => exact rfl); (case aB => exact (by repeat (first | (with_reducible first | exact HB.out | apply below_alloc | apply pw_below_drewN | apply below_drew1) | exact HB.out))); (case aF => exact (fun _ _ => trivial)); (case aO => exact (by (with_reducible repeat (first | apply Kd.R_alloc | apply Kd.R_drewN | apply Kd.R_drew)); exact HO_5.out)); (case aS => exact (below_size (by repeat (first | (with_reducible first | exact HB.out | apply below_alloc | apply pw_below_drewN | apply below_drew1) | exact HB.out)))); (case aL => have := LMc7.out; omega); intro v214 w9 ho hb hg hat; rw [← Ny213.out] at ho; have n0_ := Aside0.mk (hb); have n1_ := Aside0.mk (ho); clear HB; clear HO_5; have HB := n0_; have HO215 := n1_; clear n0_ n1_; clear ho hb hg hat))
       go_roundg k1
       case measure => have := HK1.out; omega
       case rel => exact ⟨(y213), (wrap64 (x6_1 + 1)), (by first | rfl | (simp; done) | (simp [*]; done)), H', ⟨by have := HK1.out; omega⟩, ⟨by (with_reducible repeat (first | apply Kd.R_alloc | apply Kd.R_drewN | apply Kd.R_drew)); exact HO215.out⟩, ⟨by repeat (first | (with_reducible first | exact HB.out | apply below_alloc | apply pw_below_drewN | apply below_drew1) | exact HB.out)⟩⟩
      ·
       rw [if_neg c7] at H
       exact absurd H (by simp)
     ·
      replace c6 := Bool.eq_false_iff.mpr c6
      subst c6
      have H1 : (spec_Values.l0 k1 l0 a1 x5_1 (wrap64 (x6_1 + 1))) = some r := by rw [if_neg (show ¬ (false = true) by decide)] at H; exact H
      clear H
      have H := H1
      clear H1
      have H' := Aside0.mk H
      clear H
      have p210 : 0 ≤ (x6_1 : Int) := of_decide_eq_true (by first | (with_reducible assumption) | assumption)
      have q210 : x6_1 < (l0.length : Int) := of_decide_eq_true (by first | (with_reducible assumption) | assumption)
      obtain ⟨ad210, e210, hx210_0, hx210_1⟩ := at_T31 HR0.out x6_1 p210 q210
      cases e210
      replace hx210_0 := (HB.out.cell (World.block_lt_of_cell? w _ hx210_0)).trans hx210_0
      replace hx210_1 := (HB.out.cell (World.block_lt_of_cell? w _ hx210_1)).trans hx210_1
      replace p210 := eq_true p210
      replace q210 := eq_true q210
      go_wp2_with (first | ((with_reducible refine gate_callee (f := 12) rfl ?_); refine goesL_ (some 19) rfl rfl Tryd.func12 (by kernel_rfl) rfl #[.string a1, .string ((rd_T31 l0 x6_1).f0)] rfl (by (try simp only [List.map_toArray, List.map_cons, List.map_nil]); first | done | rfl | (simp only [List.length_drop, List.length_take]; rfl)) ?_; (with_reducible refine (spec_Match.calls k1 a1 ((rd_T31 l0 x6_1).f0) false _ A5.out).mono ?_); rintro e w10 ⟨rfl, hb⟩; refine ⟨_, rfl, ?_⟩; have n0_ := Aside0.mk (Kd.R_below (by (with_reducible repeat (first | apply Kd.R_alloc | apply Kd.R_drewN | apply Kd.R_drew)); exact HO_5.out) hb); have n1_ := Aside0.mk (below_step (by repeat (first | (with_reducible first | exact HB.out | apply below_alloc | apply pw_below_drewN | apply below_drew1) | exact HB.out)) hb); clear HO_5; clear HB; have HO_5 := n0_; have HB := n1_; clear n0_ n1_; (try clear hb); (try clear hb2); (try clear hk); (try clear hi)))
      go_roundg k1
      case measure => have := HK1.out; omega
      case rel => exact ⟨(x5_1), (wrap64 (x6_1 + 1)), (by first | rfl | (simp; done) | (simp [*]; done)), H', ⟨by have := HK1.out; omega⟩, ⟨by (with_reducible repeat (first | apply Kd.R_alloc | apply Kd.R_drewN | apply Kd.R_drew)); exact HO_5.out⟩, ⟨by repeat (first | (with_reducible first | exact HB.out | apply below_alloc | apply pw_below_drewN | apply below_drew1) | exact HB.out)⟩⟩
    ·
     rw [if_neg c4] at H
     exact absurd H (by simp)
   ·
    rw [if_neg c3] at H
    have c3b0 : decide (x6_1 < (l0.length : Int)) = false := decide_eq_false c3
    clear c3
    obtain rfl := Option.some.inj H
    go_wp2
    go_ret
    exact ⟨_, by first | rfl | (simp [errW_none, errW_some] <;> rfl) | (simp [*, errW_none, errW_some] <;> rfl), by (with_reducible repeat (first | apply Kd.R_alloc | apply Kd.R_drewN | apply Kd.R_drew)); exact HO_5.out, by repeat (first | (with_reducible first | exact HB.out | apply below_alloc | apply pw_below_drewN | apply below_drew1) | exact HB.out)⟩

end Go.Proofs.YtcnbnljlopopkaaDoor.PFnListMatch

-- thin
