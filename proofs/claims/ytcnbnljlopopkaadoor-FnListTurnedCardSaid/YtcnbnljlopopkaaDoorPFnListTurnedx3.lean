-- Written by hprint.py (this session's program, over the kit's printing program, with this session's own contracts in it). Not trusted: Lean checks it.
import Derived.Test.YtcnbnljlopopkaaDoorPFnListTurnedx0
import Derived.Test.YtcnbnljlopopkaaDoorPFnListTurnedx1
import Derived.Test.YtcnbnljlopopkaaDoorPFnListTurnedx2
namespace Go.Proofs.YtcnbnljlopopkaaDoor.PFnListTurned
open Go.RowKit Go.Proofs.YtcnbnljlopopkaaDoorW.PrintWords Go.Proofs.YtcnbnljlopopkaaDoorW.PrintLast Go.Proofs.YtcnbnljlopopkaaDoorW.PrintMore
attribute [local go_sem] max2_int min2_int max_two min_two max_three min_three max_four min_four   -- for this text's walks alone
set_option linter.unusedVariables false
set_option linter.unusedSimpArgs false

/-! ### spec_Literal: function 31 -/
def spec_Literal.l0 : Nat → List ByteArray → Int → Option (Bool)
 | 0, _, _ => none
 | k + 1, x3, x4 => if x4 < (x3.length : Int) then (if 0 ≤ x4 then (if (rdOf ByteArray.empty x3 x4).toList = ([42] : List UInt8) then (some false) else (if (rdOf ByteArray.empty x3 x4).toList = ([62] : List UInt8) then (some false) else (spec_Literal.l0 k x3 (wrap64 (x4 + 1))))) else (none)) else (some true)
def spec_Literal.f (k : Nat) (a0 : ByteArray) : Option (Bool) := (spec_Tokens.f k a0).bind fun t144 => (spec_Literal.l0 k t144 0)
theorem spec_Literal.mono_l : ∀ k, (∀ y0 y1, LeO (spec_Literal.l0 k y0 y1) (spec_Literal.l0 (k + 1) y0 y1))
 | 0 => fun _ _ r h => by simp [spec_Literal.l0] at h
 | k + 1 => by
  have ih0 := spec_Literal.mono_l k
  ·
   intro y0 y1
   unfold spec_Literal.l0
   repeat' first
   | (with_reducible exact ih0 _ _)
   | (with_reducible exact spec_Tokens.mono _ _)
   | (with_reducible exact LeO.refl _)
   | (with_reducible exact LeO.none _)
   | (with_reducible refine LeO.ite ?_ ?_)
   | (with_reducible refine LeO.bind ?_ (fun _ => ?_))
   | exact ih0 _ _
   | exact spec_Tokens.mono _ _
   | exact LeO.none _
   | refine LeO.ite ?_ ?_
   | refine LeO.bind ?_ (fun _ => ?_)
theorem spec_Literal.mono : ∀ a0 k, LeO (spec_Literal.f k a0) (spec_Literal.f (k + 1) a0) := by
 intro a0 k
 have ih0 := spec_Literal.mono_l k
 unfold spec_Literal.f
 repeat' first
   | (with_reducible exact ih0 _ _)
   | (with_reducible exact spec_Tokens.mono _ _)
   | (with_reducible exact LeO.refl _)
   | (with_reducible exact LeO.none _)
   | (with_reducible refine LeO.ite ?_ ?_)
   | (with_reducible refine LeO.bind ?_ (fun _ => ?_))
   | exact ih0 _ _
   | exact spec_Tokens.mono _ _
   | exact LeO.none _
   | refine LeO.ite ?_ ?_
   | refine LeO.bind ?_ (fun _ => ?_)
set_option maxHeartbeats 8000000 in
set_option maxRecDepth 100000 in
theorem spec_Literal.calls (k : Nat) (a0 : ByteArray) (r : Bool) (w : World) (h : spec_Literal.f k a0 = some r) :
  Calls Tryd.prog 31 #[.string a0] w fun e w' => e = .returned (.bool r) ∧ Below w.heap.size w w' := by
 have HB := Aside0.mk (Below.refl w.heap.size w)
 have H : ((spec_Tokens.f k a0).bind fun t144 => (spec_Literal.l0 k t144 0)) = some r := h
 clear h
 replace H := Option.bind_eq_some_iff.mp H
 obtain ⟨t144, A20, H⟩ := H
 replace H : (spec_Literal.l0 k t144 0) = some r := H
 have A2 := Aside0.mk A20
 clear A20
 have H' := Aside0.mk H
 clear H
 go_enter Tryd.func31, Tryd.ntmps31
 go_wp2_with (first | ((with_reducible refine gate_callee (f := 32) rfl ?_); refine goesL_ (some 6) rfl rfl Tryd.func32 (by kernel_rfl) rfl #[.string a0] rfl (by (try simp only [List.map_toArray, List.map_cons, List.map_nil]); first | done | rfl | (simp only [List.length_drop, List.length_take]; rfl)) ?_; (with_reducible refine (spec_Tokens.calls k a0 t144 _ A2.out).mono ?_); rintro e w3 ⟨v145, rfl, ho0, hb⟩; refine ⟨_, rfl, ?_⟩; have n0_ := Aside0.mk (Kd.R_lower ho0 (below_size (by repeat (first | (with_reducible first | exact HB.out | apply below_alloc | apply pw_below_drewN | apply below_drew1) | exact HB.out)))); have n1_ := Aside0.mk (below_step (by repeat (first | (with_reducible first | exact HB.out | apply below_alloc | apply pw_below_drewN | apply below_drew1) | exact HB.out)) hb); clear HB; have HO146 := n0_; have HB := n1_; clear n0_ n1_; (try clear hb); (try clear hb2); (try clear hk); (try clear hi); (try clear ho0)))
 go_loopg [4] k (fun kq v4 w' => ∃ (x4_1 : Int), v4 = .int .i64 x4_1 ∧ Aside0 (spec_Literal.l0 kq t144 x4_1 = some r) ∧ Aside0 (kq ≤ k) ∧ Aside0 (Kd.R Kd.string 9 w' w.heap.size (fun _ => True) v145 t144) ∧ Aside0 (Below w.heap.size w w'))
 case atStart => exact ⟨(0), (by first | rfl | (simp; done) | (simp [*]; done)), H', ⟨Nat.le_refl _⟩, ⟨by (with_reducible repeat (first | apply Kd.R_alloc | apply Kd.R_drewN | apply Kd.R_drew)); exact HO146.out⟩, ⟨by repeat (first | (with_reducible first | exact HB.out | apply below_alloc | apply pw_below_drewN | apply below_drew1) | exact HB.out)⟩⟩
 case round =>
  clear H'
  try clear p2
  try clear c3
  obtain ⟨x4_1, rfl, HA, HK1, HO_3, HB⟩ := hrel
  cases gk with
  | zero => exact absurd HA.out (by simp [spec_Literal.l0])
  | succ k1 =>
   have H := HA.out
   clear HA
   simp only [spec_Literal.l0] at H
   by_cases c4 : x4_1 < (t144.length : Int)
   ·
    rw [if_pos c4] at H
    have c4b0 : decide (x4_1 < (t144.length : Int)) = true := decide_eq_true c4
    clear c4
    by_cases c5 : 0 ≤ x4_1
    ·
     rw [if_pos c5] at H
     have c5b0 : decide (0 ≤ x4_1) = true := decide_eq_true c5
     clear c5
     by_cases c6 : (rdOf ByteArray.empty t144 x4_1).toList = ([42] : List UInt8)
     ·
      rw [if_pos c6] at H
      have c6b0 : ((rdOf ByteArray.empty t144 x4_1).toList == ([42] : List UInt8)) = true := beq_iff_eq.mpr c6
      have c6b1 : ((rdOf ByteArray.empty t144 x4_1).toList != ([42] : List UInt8)) = false := bne_eq_false_iff_eq.mpr c6
      clear c6
      obtain rfl := Option.some.inj H
      obtain ⟨Ao7, co7, eo7⟩ := Kd.R_slice HO_3.out
      subst eo7
      have p147 : 0 ≤ (x4_1 : Int) := of_decide_eq_true (by first | (with_reducible assumption) | assumption)
      have q147 : x4_1 < (t144.length : Int) := of_decide_eq_true (by first | (with_reducible assumption) | assumption)
      obtain ⟨ad147, e147, hx147_0⟩ := Kd.at_string (Kd.R_reads' HO_3.out).2.2 x4_1 p147 q147
      cases e147
      replace p147 := eq_true p147
      replace q147 := eq_true q147
      go_wp2
      go_ret
      exact ⟨by first | rfl | (simp [errW_none, errW_some] <;> rfl) | (simp [*, errW_none, errW_some] <;> rfl) | (simp [errW_none, errW_some]; generalize ByteArray.toList _ = l_; cases l_ <;> rfl), by repeat (first | (with_reducible first | exact HB.out | apply below_alloc | apply pw_below_drewN | apply below_drew1) | exact HB.out)⟩
     ·
      rw [if_neg c6] at H
      have c6b0 : ((rdOf ByteArray.empty t144 x4_1).toList == ([42] : List UInt8)) = false := beq_eq_false_iff_ne.mpr c6
      have c6b1 : ((rdOf ByteArray.empty t144 x4_1).toList != ([42] : List UInt8)) = true := bne_iff_ne.mpr c6
      by_cases c8 : (rdOf ByteArray.empty t144 x4_1).toList = ([62] : List UInt8)
      ·
       rw [if_pos c8] at H
       have c8b0 : ((rdOf ByteArray.empty t144 x4_1).toList == ([62] : List UInt8)) = true := beq_iff_eq.mpr c8
       have c8b1 : ((rdOf ByteArray.empty t144 x4_1).toList != ([62] : List UInt8)) = false := bne_eq_false_iff_eq.mpr c8
       clear c8
       obtain rfl := Option.some.inj H
       obtain ⟨Ao9, co9, eo9⟩ := Kd.R_slice HO_3.out
       subst eo9
       have p147 : 0 ≤ (x4_1 : Int) := of_decide_eq_true (by first | (with_reducible assumption) | assumption)
       have q147 : x4_1 < (t144.length : Int) := of_decide_eq_true (by first | (with_reducible assumption) | assumption)
       obtain ⟨ad147, e147, hx147_0⟩ := Kd.at_string (Kd.R_reads' HO_3.out).2.2 x4_1 p147 q147
       cases e147
       replace p147 := eq_true p147
       replace q147 := eq_true q147
       have p148 : 0 ≤ (x4_1 : Int) := of_decide_eq_true (by first | (with_reducible assumption) | assumption)
       have q148 : x4_1 < (t144.length : Int) := of_decide_eq_true (by first | (with_reducible assumption) | assumption)
       obtain ⟨ad148, e148, hx148_0⟩ := Kd.at_string (Kd.R_reads' HO_3.out).2.2 x4_1 p148 q148
       obtain rfl : ad147 = ad148 := (by injection e148)
       replace p148 := eq_true p148
       replace q148 := eq_true q148
       go_wp2
       go_ret
       exact ⟨by first | rfl | (simp [errW_none, errW_some] <;> rfl) | (simp [*, errW_none, errW_some] <;> rfl) | (simp [errW_none, errW_some]; generalize ByteArray.toList _ = l_; cases l_ <;> rfl), by repeat (first | (with_reducible first | exact HB.out | apply below_alloc | apply pw_below_drewN | apply below_drew1) | exact HB.out)⟩
      ·
       rw [if_neg c8] at H
       have c8b0 : ((rdOf ByteArray.empty t144 x4_1).toList == ([62] : List UInt8)) = false := beq_eq_false_iff_ne.mpr c8
       have c8b1 : ((rdOf ByteArray.empty t144 x4_1).toList != ([62] : List UInt8)) = true := bne_iff_ne.mpr c8
       have H' := Aside0.mk H
       clear H
       obtain ⟨Ao10, co10, eo10⟩ := Kd.R_slice HO_3.out
       subst eo10
       have p147 : 0 ≤ (x4_1 : Int) := of_decide_eq_true (by first | (with_reducible assumption) | assumption)
       have q147 : x4_1 < (t144.length : Int) := of_decide_eq_true (by first | (with_reducible assumption) | assumption)
       obtain ⟨ad147, e147, hx147_0⟩ := Kd.at_string (Kd.R_reads' HO_3.out).2.2 x4_1 p147 q147
       cases e147
       replace p147 := eq_true p147
       replace q147 := eq_true q147
       have p148 : 0 ≤ (x4_1 : Int) := of_decide_eq_true (by first | (with_reducible assumption) | assumption)
       have q148 : x4_1 < (t144.length : Int) := of_decide_eq_true (by first | (with_reducible assumption) | assumption)
       obtain ⟨ad148, e148, hx148_0⟩ := Kd.at_string (Kd.R_reads' HO_3.out).2.2 x4_1 p148 q148
       obtain rfl : ad147 = ad148 := (by injection e148)
       replace p148 := eq_true p148
       replace q148 := eq_true q148
       go_wp2
       go_roundg k1
       case measure => have := HK1.out; omega
       case rel => exact ⟨(wrap64 (x4_1 + 1)), (by first | rfl | (simp; done) | (simp [*]; done)), H', ⟨by have := HK1.out; omega⟩, ⟨by (with_reducible repeat (first | apply Kd.R_alloc | apply Kd.R_drewN | apply Kd.R_drew)); exact HO_3.out⟩, ⟨by repeat (first | (with_reducible first | exact HB.out | apply below_alloc | apply pw_below_drewN | apply below_drew1) | exact HB.out)⟩⟩
    ·
     rw [if_neg c5] at H
     exact absurd H (by simp)
   ·
    rw [if_neg c4] at H
    have c4b0 : decide (x4_1 < (t144.length : Int)) = false := decide_eq_false c4
    clear c4
    obtain rfl := Option.some.inj H
    obtain ⟨Ao11, co11, eo11⟩ := Kd.R_slice HO_3.out
    subst eo11
    go_wp2
    go_ret
    exact ⟨by first | rfl | (simp [errW_none, errW_some] <;> rfl) | (simp [*, errW_none, errW_some] <;> rfl) | (simp [errW_none, errW_some]; generalize ByteArray.toList _ = l_; cases l_ <;> rfl), by repeat (first | (with_reducible first | exact HB.out | apply below_alloc | apply pw_below_drewN | apply below_drew1) | exact HB.out)⟩

/-! ### laws_plain: function 10 -/
def laws_plain.f (k : Nat) (a0 : ByteArray) : Option (Bool) := (laws_valid.f k a0).bind fun t149 => (if t149 = true then ((spec_Literal.f k a0).bind fun t150 => (some t150)) else (some false))
theorem laws_plain.mono : ∀ a0 k, LeO (laws_plain.f k a0) (laws_plain.f (k + 1) a0) := by
 intro a0 k
 unfold laws_plain.f
 repeat' first
   | (with_reducible exact laws_valid.mono _ _)
   | (with_reducible exact spec_Literal.mono _ _)
   | (with_reducible exact LeO.refl _)
   | (with_reducible exact LeO.none _)
   | (with_reducible refine LeO.ite ?_ ?_)
   | (with_reducible refine LeO.bind ?_ (fun _ => ?_))
   | exact laws_valid.mono _ _
   | exact spec_Literal.mono _ _
   | exact LeO.none _
   | refine LeO.ite ?_ ?_
   | refine LeO.bind ?_ (fun _ => ?_)
set_option maxHeartbeats 8000000 in
set_option maxRecDepth 100000 in
theorem laws_plain.calls (k : Nat) (a0 : ByteArray) (r : Bool) (w : World) (h : laws_plain.f k a0 = some r) :
  Calls Tryd.prog 10 #[.string a0] w fun e w' => e = .returned (.bool r) ∧ Below w.heap.size w w' := by
 have HB := Aside0.mk (Below.refl w.heap.size w)
 have H : ((laws_valid.f k a0).bind fun t149 => (if t149 = true then ((spec_Literal.f k a0).bind fun t150 => (some t150)) else (some false))) = some r := h
 clear h
 replace H := Option.bind_eq_some_iff.mp H
 obtain ⟨t149, A20, H⟩ := H
 replace H : (if t149 = true then ((spec_Literal.f k a0).bind fun t150 => (some t150)) else (some false)) = some r := H
 have A2 := Aside0.mk A20
 clear A20
 by_cases c3 : t149 = true
 ·
  subst c3
  have H1 : ((spec_Literal.f k a0).bind fun t150 => (some t150)) = some r := by rw [if_pos rfl] at H; exact H
  clear H
  have H := H1
  clear H1
  replace H := Option.bind_eq_some_iff.mp H
  obtain ⟨t150, A40, H⟩ := H
  replace H : (some t150) = some r := H
  have A4 := Aside0.mk A40
  clear A40
  obtain rfl := Option.some.inj H
  go_enter Tryd.func10, Tryd.ntmps10
  go_wp2_with (first | ((with_reducible refine gate_callee (f := 30) rfl ?_); refine goesL_ (some 4) rfl rfl Tryd.func30 (by kernel_rfl) rfl #[.string a0] rfl (by (try simp only [List.map_toArray, List.map_cons, List.map_nil]); first | done | rfl | (simp only [List.length_drop, List.length_take]; rfl)) ?_; (with_reducible refine (laws_valid.calls k a0 true _ A2.out).mono ?_); rintro e w5 ⟨rfl, hb⟩; refine ⟨_, rfl, ?_⟩; have n0_ := Aside0.mk (below_step (by repeat (first | (with_reducible first | exact HB.out | apply below_alloc | apply pw_below_drewN | apply below_drew1) | exact HB.out)) hb); clear HB; have HB := n0_; clear n0_; (try clear hb); (try clear hb2); (try clear hk); (try clear hi)) | (go_at_call 31; (with_reducible refine (spec_Literal.calls k a0 t150 _ A4.out).mono ?_); rintro e w6 ⟨rfl, hb⟩; have n0_ := Aside0.mk (below_step (by repeat (first | (with_reducible first | exact HB.out | apply below_alloc | apply pw_below_drewN | apply below_drew1) | exact HB.out)) hb); clear HB; have HB := n0_; clear n0_; (try clear hb); (try clear hb2); (try clear hk); (try clear hi)))
  go_ret
  exact ⟨by first | rfl | (simp [errW_none, errW_some] <;> rfl) | (simp [*, errW_none, errW_some] <;> rfl) | (simp [errW_none, errW_some]; generalize ByteArray.toList _ = l_; cases l_ <;> rfl), by repeat (first | (with_reducible first | exact HB.out | apply below_alloc | apply pw_below_drewN | apply below_drew1) | exact HB.out)⟩
 ·
  replace c3 := Bool.eq_false_iff.mpr c3
  subst c3
  have H1 : (some false) = some r := by rw [if_neg (show ¬ (false = true) by decide)] at H; exact H
  clear H
  have H := H1
  clear H1
  obtain rfl := Option.some.inj H
  go_enter Tryd.func10, Tryd.ntmps10
  go_wp2_with (first | ((with_reducible refine gate_callee (f := 30) rfl ?_); refine goesL_ (some 4) rfl rfl Tryd.func30 (by kernel_rfl) rfl #[.string a0] rfl (by (try simp only [List.map_toArray, List.map_cons, List.map_nil]); first | done | rfl | (simp only [List.length_drop, List.length_take]; rfl)) ?_; (with_reducible refine (laws_valid.calls k a0 false _ A2.out).mono ?_); rintro e w7 ⟨rfl, hb⟩; refine ⟨_, rfl, ?_⟩; have n0_ := Aside0.mk (below_step (by repeat (first | (with_reducible first | exact HB.out | apply below_alloc | apply pw_below_drewN | apply below_drew1) | exact HB.out)) hb); clear HB; have HB := n0_; clear n0_; (try clear hb); (try clear hb2); (try clear hk); (try clear hi)))
  go_ret
  exact ⟨by first | rfl | (simp [errW_none, errW_some] <;> rfl) | (simp [*, errW_none, errW_some] <;> rfl) | (simp [errW_none, errW_some]; generalize ByteArray.toList _ = l_; cases l_ <;> rfl), by repeat (first | (with_reducible first | exact HB.out | apply below_alloc | apply pw_below_drewN | apply below_drew1) | exact HB.out)⟩

/-! ### laws_sameInts: function 18 -/
def laws_sameInts.l0 : Nat → List Int → List Int → Int → Option (Bool)
 | 0, _, _, _ => none
 | k + 1, x0, x1, x5 => if x5 < (x0.length : Int) then (if 0 ≤ x5 then (if x5 < (x1.length : Int) then (if (rd x0 x5) = (rd x1 x5) then (laws_sameInts.l0 k x0 x1 (wrap64 (x5 + 1))) else (some false)) else (none)) else (none)) else (some true)
def laws_sameInts.f (k : Nat) (l0 : List Int) (l1 : List Int) : Option (Bool) := if (l0.length : Int) = (l1.length : Int) then (laws_sameInts.l0 k l0 l1 0) else (some false)
theorem laws_sameInts.mono_l : ∀ k, (∀ y0 y1 y2, LeO (laws_sameInts.l0 k y0 y1 y2) (laws_sameInts.l0 (k + 1) y0 y1 y2))
 | 0 => fun _ _ _ r h => by simp [laws_sameInts.l0] at h
 | k + 1 => by
  have ih0 := laws_sameInts.mono_l k
  ·
   intro y0 y1 y2
   unfold laws_sameInts.l0
   repeat' first
   | (with_reducible exact ih0 _ _ _)
   | (with_reducible exact LeO.refl _)
   | (with_reducible exact LeO.none _)
   | (with_reducible refine LeO.ite ?_ ?_)
   | (with_reducible refine LeO.bind ?_ (fun _ => ?_))
   | exact ih0 _ _ _
   | exact LeO.none _
   | refine LeO.ite ?_ ?_
   | refine LeO.bind ?_ (fun _ => ?_)
theorem laws_sameInts.mono : ∀ a0 a1 k, LeO (laws_sameInts.f k a0 a1) (laws_sameInts.f (k + 1) a0 a1) := by
 intro a0 a1 k
 have ih0 := laws_sameInts.mono_l k
 unfold laws_sameInts.f
 repeat' first
   | (with_reducible exact ih0 _ _ _)
   | (with_reducible exact LeO.refl _)
   | (with_reducible exact LeO.none _)
   | (with_reducible refine LeO.ite ?_ ?_)
   | (with_reducible refine LeO.bind ?_ (fun _ => ?_))
   | exact ih0 _ _ _
   | exact LeO.none _
   | refine LeO.ite ?_ ?_
   | refine LeO.bind ?_ (fun _ => ?_)
set_option maxHeartbeats 8000000 in
set_option maxRecDepth 100000 in
theorem laws_sameInts.calls (k : Nat) (A0 : Option Addr) (c0 : Nat) (l0 : List Int) (A1 : Option Addr) (c1 : Nat) (l1 : List Int) (r : Bool) (w : World) (hr0 : Kd.C (Kd.int .i64) w A0 l0.length l0) (hc0 : l0.length ≤ c0) (hr1 : Kd.C (Kd.int .i64) w A1 l1.length l1) (hc1 : l1.length ≤ c1) (h : laws_sameInts.f k l0 l1 = some r) :
  Calls Tryd.prog 18 #[.slice A0 l0.length c0, .slice A1 l1.length c1] w fun e w' => e = .returned (.bool r) ∧ Drawn0 w w' := by
 have HR0 := Aside0.mk hr0
 have HC0 := Aside0.mk hc0
 clear hr0 hc0
 have HR1 := Aside0.mk hr1
 have HC1 := Aside0.mk hc1
 clear hr1 hc1
 have H : (if (l0.length : Int) = (l1.length : Int) then (laws_sameInts.l0 k l0 l1 0) else (some false)) = some r := h
 clear h
 by_cases c3 : (l0.length : Int) = (l1.length : Int)
 ·
  rw [if_pos c3] at H
  have c3b0 : ((l0.length : Int) == (l1.length : Int)) = true := beq_iff_eq.mpr c3
  have c3b1 : ((l0.length : Int) != (l1.length : Int)) = false := bne_eq_false_iff_eq.mpr c3
  have c3b2 : (l0.length == l1.length) = true := by first | simpa using c3 | (simp at c3 ⊢; omega)
  clear c3
  have H' := Aside0.mk H
  clear H
  go_enter Tryd.func18, Tryd.ntmps18
  go_wp2
  repeat (go_quiet (fail); try go_wp2)
  go_loopg [5] k (fun kq v5 w' => ∃ (x5_1 : Int), v5 = .int .i64 x5_1 ∧ Aside0 (laws_sameInts.l0 kq l0 l1 x5_1 = some r) ∧ Aside0 (kq ≤ k) ∧ Drawn0 w w')
  case atStart => exact ⟨(0), (by first | rfl | (simp; done) | (simp [*]; done)), H', ⟨Nat.le_refl _⟩, by repeat (first | exact Drawn0.refl _ | apply Drawn0.step)⟩
  case round =>
   clear H'
   try clear c1
   try clear p2
   try clear c3
   try clear c3b0
   try clear c3b1
   try clear c3b2
   obtain ⟨x5_1, rfl, HA, HK1, ⟨m1, rfl⟩⟩ := hrel
   cases gk with
   | zero => exact absurd HA.out (by simp [laws_sameInts.l0])
   | succ k1 =>
    have H := HA.out
    clear HA
    simp only [laws_sameInts.l0] at H
    by_cases c4 : x5_1 < (l0.length : Int)
    ·
     rw [if_pos c4] at H
     have c4b0 : decide (x5_1 < (l0.length : Int)) = true := decide_eq_true c4
     clear c4
     by_cases c5 : 0 ≤ x5_1
     ·
      rw [if_pos c5] at H
      have c5b0 : decide (0 ≤ x5_1) = true := decide_eq_true c5
      clear c5
      by_cases c6 : x5_1 < (l1.length : Int)
      ·
       rw [if_pos c6] at H
       have c6b0 : decide (x5_1 < (l1.length : Int)) = true := decide_eq_true c6
       clear c6
       by_cases c7 : (rd l0 x5_1) = (rd l1 x5_1)
       ·
        rw [if_pos c7] at H
        have c7b0 : ((rd l0 x5_1) == (rd l1 x5_1)) = true := beq_iff_eq.mpr c7
        have c7b1 : ((rd l0 x5_1) != (rd l1 x5_1)) = false := bne_eq_false_iff_eq.mpr c7
        clear c7
        have H' := Aside0.mk H
        clear H
        have p151 : 0 ≤ (x5_1 : Int) := of_decide_eq_true (by first | (with_reducible assumption) | assumption)
        have q151 : x5_1 < (l0.length : Int) := of_decide_eq_true (by first | (with_reducible assumption) | assumption)
        obtain ⟨ad151, e151, hx151_0⟩ := Kd.at_int HR0.out x5_1 p151 q151
        cases e151
        replace p151 := eq_true p151
        replace q151 := eq_true q151
        have p152 : 0 ≤ (x5_1 : Int) := of_decide_eq_true (by first | (with_reducible assumption) | assumption)
        have q152 : x5_1 < (l1.length : Int) := of_decide_eq_true (by first | (with_reducible assumption) | assumption)
        obtain ⟨ad152, e152, hx152_0⟩ := Kd.at_int HR1.out x5_1 p152 q152
        cases e152
        replace p152 := eq_true p152
        replace q152 := eq_true q152
        go_wp2
        repeat (go_quiet (fail); try go_wp2)
        go_roundg k1
        case measure => have := HK1.out; omega
        case rel => exact ⟨(wrap64 (x5_1 + 1)), (by first | rfl | (simp; done) | (simp [*]; done)), H', ⟨by have := HK1.out; omega⟩, by repeat (first | exact Drawn0.refl _ | apply Drawn0.step)⟩
       ·
        rw [if_neg c7] at H
        have c7b0 : ((rd l0 x5_1) == (rd l1 x5_1)) = false := beq_eq_false_iff_ne.mpr c7
        have c7b1 : ((rd l0 x5_1) != (rd l1 x5_1)) = true := bne_iff_ne.mpr c7
        obtain rfl := Option.some.inj H
        have p151 : 0 ≤ (x5_1 : Int) := of_decide_eq_true (by first | (with_reducible assumption) | assumption)
        have q151 : x5_1 < (l0.length : Int) := of_decide_eq_true (by first | (with_reducible assumption) | assumption)
        obtain ⟨ad151, e151, hx151_0⟩ := Kd.at_int HR0.out x5_1 p151 q151
        cases e151
        replace p151 := eq_true p151
        replace q151 := eq_true q151
        have p152 : 0 ≤ (x5_1 : Int) := of_decide_eq_true (by first | (with_reducible assumption) | assumption)
        have q152 : x5_1 < (l1.length : Int) := of_decide_eq_true (by first | (with_reducible assumption) | assumption)
        obtain ⟨ad152, e152, hx152_0⟩ := Kd.at_int HR1.out x5_1 p152 q152
        cases e152
        replace p152 := eq_true p152
        replace q152 := eq_true q152
        go_wp2
        repeat (go_quiet (fail); try go_wp2)
        go_ret
        exact ⟨by first | rfl | (simp; done) | (simp [*]; done) | (simp; generalize ByteArray.toList _ = l_; cases l_ <;> rfl), by repeat (first | exact Drawn0.refl _ | apply Drawn0.step)⟩
      ·
       rw [if_neg c6] at H
       exact absurd H (by simp)
     ·
      rw [if_neg c5] at H
      exact absurd H (by simp)
    ·
     rw [if_neg c4] at H
     have c4b0 : decide (x5_1 < (l0.length : Int)) = false := decide_eq_false c4
     clear c4
     obtain rfl := Option.some.inj H
     go_wp2
     repeat (go_quiet (fail); try go_wp2)
     go_ret
     exact ⟨by first | rfl | (simp; done) | (simp [*]; done) | (simp; generalize ByteArray.toList _ = l_; cases l_ <;> rfl), by repeat (first | exact Drawn0.refl _ | apply Drawn0.step)⟩
 ·
  rw [if_neg c3] at H
  have c3b0 : ((l0.length : Int) == (l1.length : Int)) = false := beq_eq_false_iff_ne.mpr c3
  have c3b1 : ((l0.length : Int) != (l1.length : Int)) = true := bne_iff_ne.mpr c3
  have c3b2 : (l0.length == l1.length) = false := by first | simpa using c3 | (simp at c3 ⊢; omega)
  obtain rfl := Option.some.inj H
  go_enter Tryd.func18, Tryd.ntmps18
  go_wp2
  repeat (go_quiet (fail); try go_wp2)
  go_ret
  exact ⟨by first | rfl | (simp; done) | (simp [*]; done) | (simp; generalize ByteArray.toList _ = l_; cases l_ <;> rfl), by repeat (first | exact Drawn0.refl _ | apply Drawn0.step)⟩

end Go.Proofs.YtcnbnljlopopkaaDoor.PFnListTurned

-- thin
