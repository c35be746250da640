-- Written by hprint.py (this session's program, over the kit's printing program, with this session's own contracts in it). Not trusted: Lean checks it.
import Derived.Test.YtmfblbjklmgncaaDoorPFnProtoMessagex0
import Derived.Test.YtmfblbjklmgncaaDoorPFnProtoMessagex1
import Derived.Test.YtmfblbjklmgncaaDoorPFnProtoMessagex2
namespace Go.Proofs.YtmfblbjklmgncaaDoor.PFnProtoMessage
open Go.RowKit Go.Proofs.YtmfblbjklmgncaaDoorW.PrintWords Go.Proofs.YtmfblbjklmgncaaDoorW.PrintLast Go.Proofs.YtmfblbjklmgncaaDoorW.PrintMore
attribute [local go_sem] max2_int min2_int max_two min_two max_three min_three max_four min_four   -- for this text's walks alone
set_option linter.unusedVariables false
set_option linter.unusedSimpArgs false

/-! ### laws_FnProtoMessage: function 4 -/
mutual
def laws_FnProtoMessage.l0 : Nat → List (S35) → Int → List Int → Int → Int → Option (Bool)
  | 0, _, _, _, _, _ => none
  | k + 1, x0, x1, x5, x6, x7 => if x7 < (x0.length : Int) then (if 0 ≤ x7 then ((spec_Right.f ((rd_T35 x0 x7).f0) ((rd_T35 x0 x7).f1) ((rd_T35 x0 x7).f2) ((rd_T35 x0 x7).f3)).bind fun t157 => (if t157 = true then (laws_FnProtoMessage.j1 k x0 x1 x5 x6 x7 (decide ((((rd_T35 x0 x7).f3).length : Int) > 200))) else (laws_FnProtoMessage.j1 k x0 x1 x5 x6 x7 true))) else (none)) else (laws_FnProtoMessage.l1 k x0 x1 x5 x6 0)
def laws_FnProtoMessage.j1 : Nat → List (S35) → Int → List Int → Int → Int → Bool → Option (Bool)
  | 0, _, _, _, _, _, _ => none
  | k + 1, x0, x1, x5, x6, x7, x44 => if x44 = true then ((laws_awakeProto.f).bind fun t159 => (some t159)) else (if 0 ≤ x7 then (if x7 < (x0.length : Int) then ((spec_FieldBytes.f k ((rd_T35 x0 x7).f0) ((rd_T35 x0 x7).f1) ((rd_T35 x0 x7).f2) ((rd_T35 x0 x7).f3)).bind fun t161 => (if x5.length + t161.length < 140737488355328 then (laws_FnProtoMessage.l0 k x0 x1 (x5 ++ t161) x6 (wrap64 (x7 + 1))) else (none))) else (none)) else (none))
def laws_FnProtoMessage.l1 : Nat → List (S35) → Int → List Int → Int → Int → Option (Bool)
  | 0, _, _, _, _, _ => none
  | k + 1, x0, x1, x5, x6, x8 => if x8 < (x0.length : Int) then ((some (([] : List Int) : List Int)).bind fun y168 => (if 0 ≤ x6 then (if x6 ≤ (x5.length : Int) then ((some (x5.drop (x6 : Int).toNat : List Int)).bind fun y171 => (if y168.length + y171.length < 140737488355328 then ((impl_ProtoField.f (y168 ++ y171)).bind fun bt178 => (if bt178.2.2.2 = 0 then (if 0 ≤ x8 then (if bt178.1 = ((rd_T35 x0 x8).f0) then (if bt178.2.1 = ((rd_T35 x0 x8).f1) then ((spec_FieldBytes.f k ((rd_T35 x0 x8).f0) ((rd_T35 x0 x8).f1) ((rd_T35 x0 x8).f2) ((rd_T35 x0 x8).f3)).bind fun t185 => (laws_FnProtoMessage.j3 k x0 x1 x5 x6 x8 bt178.2.2.1 (bt178.2.2.1 != (t185.length : Int)))) else (laws_FnProtoMessage.j3 k x0 x1 x5 x6 x8 bt178.2.2.1 true)) else (laws_FnProtoMessage.j3 k x0 x1 x5 x6 x8 bt178.2.2.1 true)) else (none)) else (laws_FnProtoMessage.j3 k x0 x1 x5 x6 x8 bt178.2.2.1 true))) else (none))) else (none)) else (none))) else (if x6 = (x5.length : Int) then ((laws_awakeProto.f).bind fun t167 => (some t167)) else (some false))
def laws_FnProtoMessage.j3 : Nat → List (S35) → Int → List Int → Int → Int → Int → Bool → Option (Bool)
  | 0, _, _, _, _, _, _, _ => none
  | k + 1, x0, x1, x5, x6, x8, x11, x99 => if x99 = true then (some false) else (if x1 > 0 then (if x1 < x11 then (laws_FnProtoMessage.j4 k x0 x1 x5 x6 x8 x11 (x8 == (wrap64 ((x0.length : Int) - 1)))) else (laws_FnProtoMessage.j4 k x0 x1 x5 x6 x8 x11 false)) else (laws_FnProtoMessage.j4 k x0 x1 x5 x6 x8 x11 false))
def laws_FnProtoMessage.j4 : Nat → List (S35) → Int → List Int → Int → Int → Int → Bool → Option (Bool)
  | 0, _, _, _, _, _, _, _ => none
  | k + 1, x0, x1, x5, x6, x8, x11, x113 => if x113 = true then ((some (([] : List Int) : List Int)).bind fun y188 => (if 0 ≤ x6 then (if x6 ≤ (wrap64 ((x5.length : Int) - x1)) then (if (wrap64 ((x5.length : Int) - x1)) ≤ (x5.length : Int) then ((some ((x5.take ((wrap64 ((x5.length : Int) - x1)) : Int).toNat).drop (x6 : Int).toNat : List Int)).bind fun y191 => (if y188.length + y191.length < 140737488355328 then ((impl_ProtoField.f (y188 ++ y191)).bind fun bt198 => (if bt198.2.2.2 = 0 then (some false) else (laws_FnProtoMessage.l1 k x0 x1 x5 (wrap64 (x6 + x11)) (wrap64 (x8 + 1))))) else (none))) else (none)) else (none)) else (none))) else (laws_FnProtoMessage.l1 k x0 x1 x5 (wrap64 (x6 + x11)) (wrap64 (x8 + 1)))
end
def laws_FnProtoMessage.f (k : Nat) (l0 : List (S35)) (a1 : Int) : Option (Bool) := (laws_zzFits7.f k l0).bind fun t154 => (if t154 = true then (if (l0.length : Int) > 10 then ((laws_awakeProto.f).bind fun t155 => (some t155)) else (laws_FnProtoMessage.l0 k l0 a1 ([] : List Int) 0 0)) else (some true))
theorem laws_FnProtoMessage.mono_l : ∀ k, (∀ y0 y1 y2 y3 y4, LeO (laws_FnProtoMessage.l0 k y0 y1 y2 y3 y4) (laws_FnProtoMessage.l0 (k + 1) y0 y1 y2 y3 y4)) ∧ (∀ y0 y1 y2 y3 y4 y5, LeO (laws_FnProtoMessage.j1 k y0 y1 y2 y3 y4 y5) (laws_FnProtoMessage.j1 (k + 1) y0 y1 y2 y3 y4 y5)) ∧ (∀ y0 y1 y2 y3 y4, LeO (laws_FnProtoMessage.l1 k y0 y1 y2 y3 y4) (laws_FnProtoMessage.l1 (k + 1) y0 y1 y2 y3 y4)) ∧ (∀ y0 y1 y2 y3 y4 y5 y6, LeO (laws_FnProtoMessage.j3 k y0 y1 y2 y3 y4 y5 y6) (laws_FnProtoMessage.j3 (k + 1) y0 y1 y2 y3 y4 y5 y6)) ∧ (∀ y0 y1 y2 y3 y4 y5 y6, LeO (laws_FnProtoMessage.j4 k y0 y1 y2 y3 y4 y5 y6) (laws_FnProtoMessage.j4 (k + 1) y0 y1 y2 y3 y4 y5 y6))
  | 0 => ⟨fun _ _ _ _ _ r h => by simp [laws_FnProtoMessage.l0] at h, fun _ _ _ _ _ _ r h => by simp [laws_FnProtoMessage.j1] at h, fun _ _ _ _ _ r h => by simp [laws_FnProtoMessage.l1] at h, fun _ _ _ _ _ _ _ r h => by simp [laws_FnProtoMessage.j3] at h, fun _ _ _ _ _ _ _ r h => by simp [laws_FnProtoMessage.j4] at h⟩
  | k + 1 => by
    obtain ⟨ih0, ih1, ih2, ih3, ih4⟩ := laws_FnProtoMessage.mono_l k
    refine ⟨?_, ?_, ?_, ?_, ?_⟩
    · intro y0 y1 y2 y3 y4
      unfold laws_FnProtoMessage.l0
      repeat' first
      | (with_reducible exact ih0 _ _ _ _ _)
      | (with_reducible exact ih1 _ _ _ _ _ _)
      | (with_reducible exact ih2 _ _ _ _ _)
      | (with_reducible exact ih3 _ _ _ _ _ _ _)
      | (with_reducible exact ih4 _ _ _ _ _ _ _)
      | (with_reducible exact laws_zzFits7.mono _ _)
      | (with_reducible exact spec_FieldBytes.mono _ _ _ _ _)
      | (with_reducible exact LeO.refl _)
      | (with_reducible exact LeO.none _)
      | (with_reducible refine LeO.ite ?_ ?_)
      | (with_reducible refine LeO.bind ?_ (fun _ => ?_))
      | exact ih0 _ _ _ _ _
      | exact ih1 _ _ _ _ _ _
      | exact ih2 _ _ _ _ _
      | exact ih3 _ _ _ _ _ _ _
      | exact ih4 _ _ _ _ _ _ _
      | exact laws_zzFits7.mono _ _
      | exact spec_FieldBytes.mono _ _ _ _ _
      | exact LeO.none _
      | refine LeO.ite ?_ ?_
      | refine LeO.bind ?_ (fun _ => ?_)
    · intro y0 y1 y2 y3 y4 y5
      unfold laws_FnProtoMessage.j1
      repeat' first
      | (with_reducible exact ih0 _ _ _ _ _)
      | (with_reducible exact ih1 _ _ _ _ _ _)
      | (with_reducible exact ih2 _ _ _ _ _)
      | (with_reducible exact ih3 _ _ _ _ _ _ _)
      | (with_reducible exact ih4 _ _ _ _ _ _ _)
      | (with_reducible exact laws_zzFits7.mono _ _)
      | (with_reducible exact spec_FieldBytes.mono _ _ _ _ _)
      | (with_reducible exact LeO.refl _)
      | (with_reducible exact LeO.none _)
      | (with_reducible refine LeO.ite ?_ ?_)
      | (with_reducible refine LeO.bind ?_ (fun _ => ?_))
      | exact ih0 _ _ _ _ _
      | exact ih1 _ _ _ _ _ _
      | exact ih2 _ _ _ _ _
      | exact ih3 _ _ _ _ _ _ _
      | exact ih4 _ _ _ _ _ _ _
      | exact laws_zzFits7.mono _ _
      | exact spec_FieldBytes.mono _ _ _ _ _
      | exact LeO.none _
      | refine LeO.ite ?_ ?_
      | refine LeO.bind ?_ (fun _ => ?_)
    · intro y0 y1 y2 y3 y4
      unfold laws_FnProtoMessage.l1
      repeat' first
      | (with_reducible exact ih0 _ _ _ _ _)
      | (with_reducible exact ih1 _ _ _ _ _ _)
      | (with_reducible exact ih2 _ _ _ _ _)
      | (with_reducible exact ih3 _ _ _ _ _ _ _)
      | (with_reducible exact ih4 _ _ _ _ _ _ _)
      | (with_reducible exact laws_zzFits7.mono _ _)
      | (with_reducible exact spec_FieldBytes.mono _ _ _ _ _)
      | (with_reducible exact LeO.refl _)
      | (with_reducible exact LeO.none _)
      | (with_reducible refine LeO.ite ?_ ?_)
      | (with_reducible refine LeO.bind ?_ (fun _ => ?_))
      | exact ih0 _ _ _ _ _
      | exact ih1 _ _ _ _ _ _
      | exact ih2 _ _ _ _ _
      | exact ih3 _ _ _ _ _ _ _
      | exact ih4 _ _ _ _ _ _ _
      | exact laws_zzFits7.mono _ _
      | exact spec_FieldBytes.mono _ _ _ _ _
      | exact LeO.none _
      | refine LeO.ite ?_ ?_
      | refine LeO.bind ?_ (fun _ => ?_)
    · intro y0 y1 y2 y3 y4 y5 y6
      unfold laws_FnProtoMessage.j3
      repeat' first
      | (with_reducible exact ih0 _ _ _ _ _)
      | (with_reducible exact ih1 _ _ _ _ _ _)
      | (with_reducible exact ih2 _ _ _ _ _)
      | (with_reducible exact ih3 _ _ _ _ _ _ _)
      | (with_reducible exact ih4 _ _ _ _ _ _ _)
      | (with_reducible exact laws_zzFits7.mono _ _)
      | (with_reducible exact spec_FieldBytes.mono _ _ _ _ _)
      | (with_reducible exact LeO.refl _)
      | (with_reducible exact LeO.none _)
      | (with_reducible refine LeO.ite ?_ ?_)
      | (with_reducible refine LeO.bind ?_ (fun _ => ?_))
      | exact ih0 _ _ _ _ _
      | exact ih1 _ _ _ _ _ _
      | exact ih2 _ _ _ _ _
      | exact ih3 _ _ _ _ _ _ _
      | exact ih4 _ _ _ _ _ _ _
      | exact laws_zzFits7.mono _ _
      | exact spec_FieldBytes.mono _ _ _ _ _
      | exact LeO.none _
      | refine LeO.ite ?_ ?_
      | refine LeO.bind ?_ (fun _ => ?_)
    · intro y0 y1 y2 y3 y4 y5 y6
      unfold laws_FnProtoMessage.j4
      repeat' first
      | (with_reducible exact ih0 _ _ _ _ _)
      | (with_reducible exact ih1 _ _ _ _ _ _)
      | (with_reducible exact ih2 _ _ _ _ _)
      | (with_reducible exact ih3 _ _ _ _ _ _ _)
      | (with_reducible exact ih4 _ _ _ _ _ _ _)
      | (with_reducible exact laws_zzFits7.mono _ _)
      | (with_reducible exact spec_FieldBytes.mono _ _ _ _ _)
      | (with_reducible exact LeO.refl _)
      | (with_reducible exact LeO.none _)
      | (with_reducible refine LeO.ite ?_ ?_)
      | (with_reducible refine LeO.bind ?_ (fun _ => ?_))
      | exact ih0 _ _ _ _ _
      | exact ih1 _ _ _ _ _ _
      | exact ih2 _ _ _ _ _
      | exact ih3 _ _ _ _ _ _ _
      | exact ih4 _ _ _ _ _ _ _
      | exact laws_zzFits7.mono _ _
      | exact spec_FieldBytes.mono _ _ _ _ _
      | exact LeO.none _
      | refine LeO.ite ?_ ?_
      | refine LeO.bind ?_ (fun _ => ?_)
theorem laws_FnProtoMessage.mono : ∀ a0 a1 k, LeO (laws_FnProtoMessage.f k a0 a1) (laws_FnProtoMessage.f (k + 1) a0 a1) := by
  intro a0 a1 k
  obtain ⟨ih0, ih1, ih2, ih3, ih4⟩ := laws_FnProtoMessage.mono_l k
  unfold laws_FnProtoMessage.f
  repeat' first
      | (with_reducible exact ih0 _ _ _ _ _)
      | (with_reducible exact ih1 _ _ _ _ _ _)
      | (with_reducible exact ih2 _ _ _ _ _)
      | (with_reducible exact ih3 _ _ _ _ _ _ _)
      | (with_reducible exact ih4 _ _ _ _ _ _ _)
      | (with_reducible exact laws_zzFits7.mono _ _)
      | (with_reducible exact spec_FieldBytes.mono _ _ _ _ _)
      | (with_reducible exact LeO.refl _)
      | (with_reducible exact LeO.none _)
      | (with_reducible refine LeO.ite ?_ ?_)
      | (with_reducible refine LeO.bind ?_ (fun _ => ?_))
      | exact ih0 _ _ _ _ _
      | exact ih1 _ _ _ _ _ _
      | exact ih2 _ _ _ _ _
      | exact ih3 _ _ _ _ _ _ _
      | exact ih4 _ _ _ _ _ _ _
      | exact laws_zzFits7.mono _ _
      | exact spec_FieldBytes.mono _ _ _ _ _
      | exact LeO.none _
      | refine LeO.ite ?_ ?_
      | refine LeO.bind ?_ (fun _ => ?_)
set_option maxHeartbeats 8000000 in
set_option maxRecDepth 100000 in
theorem laws_FnProtoMessage.calls (k : Nat) (A0 : Option Addr) (c0 : Nat) (l0 : List (S35)) (a1 : Int) (r : Bool) (w : World) (hr0 : Kd.C k35 w A0 l0.length l0) (hc0 : l0.length ≤ c0) (h : laws_FnProtoMessage.f k l0 a1 = some r) (hE_ : Go.Proofs.YtmfblbjklmgncaaDoor.ProtoFieldW.ErrLaid3 w) :
    Calls Tryd.prog 4 #[.slice A0 l0.length c0, .int .i64 a1] w fun e w' => e = .returned (.bool r) ∧ Below w.heap.size w w' := by
  have HE_ := Aside0.mk hE_
  clear hE_
  have hu35 := Tryd.underlying35
  have HR0 := Aside0.mk hr0
  have HC0 := Aside0.mk hc0
  clear hr0 hc0
  have HB := Aside0.mk (Below.refl w.heap.size w)
  have H : ((laws_zzFits7.f k l0).bind fun t154 => (if t154 = true then (if (l0.length : Int) > 10 then ((laws_awakeProto.f).bind fun t155 => (some t155)) else (laws_FnProtoMessage.l0 k l0 a1 ([] : List Int) 0 0)) else (some true))) = some r := h
  clear h
  replace H := Option.bind_eq_some_iff.mp H
  obtain ⟨t154, A30, H⟩ := H
  replace H : (if t154 = true then (if (l0.length : Int) > 10 then ((laws_awakeProto.f).bind fun t155 => (some t155)) else (laws_FnProtoMessage.l0 k l0 a1 ([] : List Int) 0 0)) else (some true)) = some r := H
  have A3 := Aside0.mk A30
  clear A30
  by_cases c4 : t154 = true
  · subst c4
    have H1 : (if (l0.length : Int) > 10 then ((laws_awakeProto.f).bind fun t155 => (some t155)) else (laws_FnProtoMessage.l0 k l0 a1 ([] : List Int) 0 0)) = some r := by rw [if_pos rfl] at H; exact H
    clear H
    have H := H1
    clear H1
    by_cases c5 : (l0.length : Int) > 10
    · rw [if_pos c5] at H
      have c5b0 : decide (10 < (l0.length : Int)) = true := decide_eq_true c5
      have c5b1 : decide (10 < l0.length) = true := decide_eq_true (by omega)
      clear c5
      replace H := Option.bind_eq_some_iff.mp H
      obtain ⟨t155, A60, H⟩ := H
      replace H : (some t155) = some r := H
      have A6 := Aside0.mk A60
      clear A60
      obtain rfl := Option.some.inj H
      go_enter Tryd.func4, Tryd.ntmps4
      go_wp2_with (first | ((with_reducible refine gate_callee (f := 14) rfl ?_); refine goesL_ (some 18) rfl rfl Tryd.func14 (by kernel_rfl) rfl #[.slice A0 l0.length c0] rfl (by (try simp only [List.map_toArray, List.map_cons, List.map_nil]); first | done | rfl | (simp only [List.length_drop, List.length_take]; rfl)) ?_; (with_reducible refine (laws_zzFits7.calls k _ _ l0 true _ ?side1 ?side2 A3.out).mono ?_); (case side1 => repeat (first | exact HR0.out | (with_reducible refine Kd.C_alloc ?_ _) | (with_reducible refine Kd.C_drewN ?_ _) | (with_reducible refine Kd.C_drew ?_))); (case side2 => exact HC0.out); rintro e w7 ⟨rfl, hb⟩; refine ⟨_, rfl, ?_⟩; have n0_ := Aside0.mk (below_step (by repeat (first | (with_reducible first | exact HB.out | apply below_alloc | apply pw_below_drewN | apply below_drew1) | exact HB.out)) hb); clear HB; have HB := n0_; clear n0_; (try clear hb); (try clear hb2); (try clear hk); (try clear hi)) | ((with_reducible refine gate_callee (f := 10) rfl ?_); refine goesL_ (some 23) rfl rfl Tryd.func10 (by kernel_rfl) rfl #[] rfl (by (try simp only [List.map_toArray, List.map_cons, List.map_nil]); first | done | rfl | (simp only [List.length_drop, List.length_take]; rfl)) ?_; (with_reducible refine (laws_awakeProto.calls  t155 _ A6.out).mono ?_); rintro e w8 ⟨rfl, hb⟩; refine ⟨_, rfl, ?_⟩; have n0_ := Aside0.mk (below_step (by repeat (first | (with_reducible first | exact HB.out | apply below_alloc | apply pw_below_drewN | apply below_drew1) | exact HB.out)) hb); clear HB; have HB := n0_; clear n0_; (try clear hb); (try clear hb2); (try clear hk); (try clear hi)))
      go_ret
      exact ⟨by first | rfl | (simp [errW_none, errW_some] <;> rfl) | (simp [*, errW_none, errW_some] <;> rfl) | (simp [errW_none, errW_some]; generalize ByteArray.toList _ = l_; cases l_ <;> rfl), by repeat (first | (with_reducible first | exact HB.out | apply below_alloc | apply pw_below_drewN | apply below_drew1) | exact HB.out)⟩
    · rw [if_neg c5] at H
      have c5b0 : decide (10 < (l0.length : Int)) = false := decide_eq_false c5
      have c5b1 : decide (10 < l0.length) = false := decide_eq_false (by omega)
      clear c5
      have H' := Aside0.mk H
      clear H
      go_enter Tryd.func4, Tryd.ntmps4
      go_wp2_with (first | ((with_reducible refine gate_callee (f := 14) rfl ?_); refine goesL_ (some 18) rfl rfl Tryd.func14 (by kernel_rfl) rfl #[.slice A0 l0.length c0] rfl (by (try simp only [List.map_toArray, List.map_cons, List.map_nil]); first | done | rfl | (simp only [List.length_drop, List.length_take]; rfl)) ?_; (with_reducible refine (laws_zzFits7.calls k _ _ l0 true _ ?side1 ?side2 A3.out).mono ?_); (case side1 => repeat (first | exact HR0.out | (with_reducible refine Kd.C_alloc ?_ _) | (with_reducible refine Kd.C_drewN ?_ _) | (with_reducible refine Kd.C_drew ?_))); (case side2 => exact HC0.out); rintro e w9 ⟨rfl, hb⟩; refine ⟨_, rfl, ?_⟩; have n0_ := Aside0.mk (below_step (by repeat (first | (with_reducible first | exact HB.out | apply below_alloc | apply pw_below_drewN | apply below_drew1) | exact HB.out)) hb); clear HB; have HB := n0_; clear n0_; (try clear hb); (try clear hb2); (try clear hk); (try clear hi)))
      go_loopg [5, 7] k (fun kq v5 v7 w' => ∃ (x5_1 : List Int) (x7_1 : Int), v7 = .int .i64 x7_1 ∧ Aside0 (laws_FnProtoMessage.l0 kq l0 a1 x5_1 0 x7_1 = some r) ∧ Aside0 (kq ≤ k) ∧ Aside0 (Kd.R (Kd.int .u8) 5 w' w.heap.size (fun _ => True) v5 x5_1) ∧ Aside0 (Below w.heap.size w w'))
      case atStart => exact ⟨(([] : List Int)), (0), (by first | rfl | (simp; done) | (simp [*]; done)), H', ⟨Nat.le_refl _⟩, ⟨by first | exact Kd.R_nil _ _ _ _ _ | exact Kd.N_nil _ _ _ _ _ | exact Kd.V_nil _ _ _ _ _ | exact Kd.Q_nil _ _ _ _ _ | exact Kd.S_nil _ _ _ _ _⟩, ⟨by repeat (first | (with_reducible first | exact HB.out | apply below_alloc | apply pw_below_drewN | apply below_drew1) | exact HB.out)⟩⟩
      case round =>
        clear H'
        try clear c1
        try clear p2
        try clear c4
        try clear c5
        try clear c5b0
        try clear c5b1
        obtain ⟨x5_1, x7_1, rfl, HA, HK1, HO_5, HB⟩ := hrel
        cases gk with
        | zero => exact absurd HA.out (by simp [laws_FnProtoMessage.l0])
        | succ k1 =>
          have H := HA.out
          clear HA
          simp only [laws_FnProtoMessage.l0] at H
          by_cases c10 : x7_1 < (l0.length : Int)
          · rw [if_pos c10] at H
            have c10b0 : decide (x7_1 < (l0.length : Int)) = true := decide_eq_true c10
            clear c10
            have HC11 := Aside0.mk H
            clear H
            go_upto_region 10 with (fail)
            go_cut [44] (fun v44 wc => ∃ (kq : Nat) (x44_10 : Bool), v44 = .bool x44_10 ∧ Aside0 (laws_FnProtoMessage.j1 kq l0 a1 x5_1 0 x7_1 x44_10 = some r) ∧ Aside0 (kq ≤ k1) ∧ Aside0 (Kd.R (Kd.int .u8) 5 wc w.heap.size (fun _ => True) u5 x5_1) ∧ Aside0 (Below w.heap.size w wc))
            case first =>
              have H := HC11.out
              clear HC11
              by_cases c12 : 0 ≤ x7_1
              · rw [if_pos c12] at H
                have c12b0 : decide (0 ≤ x7_1) = true := decide_eq_true c12
                clear c12
                (first | rw [c12b0] | (simp only [i64_w, i32_w]; rw [c12b0]) | skip)
                replace H := Option.bind_eq_some_iff.mp H
                obtain ⟨t157, A130, H⟩ := H
                replace H : (if t157 = true then (laws_FnProtoMessage.j1 k1 l0 a1 x5_1 0 x7_1 (decide ((((rd_T35 l0 x7_1).f3).length : Int) > 200))) else (laws_FnProtoMessage.j1 k1 l0 a1 x5_1 0 x7_1 true)) = some r := H
                have A13 := Aside0.mk A130
                clear A130
                by_cases c14 : t157 = true
                · subst c14
                  have H1 : (laws_FnProtoMessage.j1 k1 l0 a1 x5_1 0 x7_1 (decide ((((rd_T35 l0 x7_1).f3).length : Int) > 200))) = some r := by rw [if_pos rfl] at H; exact H
                  clear H
                  have H := H1
                  clear H1
                  have H' := Aside0.mk H
                  clear H
                  have p156 : 0 ≤ (x7_1 : Int) := of_decide_eq_true (by first | (with_reducible assumption) | assumption)
                  have q156 : x7_1 < (l0.length : Int) := of_decide_eq_true (by first | (with_reducible assumption) | assumption)
                  obtain ⟨ad156, A156_3, c156_3, e156, hx156_0, hx156_1, hx156_2, hx156_3, hl156_3, hi156_3⟩ := at_T35 HR0.out x7_1 p156 q156
                  cases e156
                  replace hx156_0 := (HB.out.cell (World.block_lt_of_cell? w _ hx156_0)).trans hx156_0
                  replace hx156_1 := (HB.out.cell (World.block_lt_of_cell? w _ hx156_1)).trans hx156_1
                  replace hx156_2 := (HB.out.cell (World.block_lt_of_cell? w _ hx156_2)).trans hx156_2
                  replace hx156_3 := (HB.out.cell (World.block_lt_of_cell? w _ hx156_3)).trans hx156_3
                  have HR156_3 := Aside0.mk hi156_3
                  have HC156_3 := Aside0.mk hl156_3
                  clear hi156_3 hl156_3
                  replace p156 := eq_true p156
                  replace q156 := eq_true q156
                  go_wp2_with (first | ((with_reducible refine gate_callee (f := 15) rfl ?_); refine goesL_ (some 34) rfl rfl Tryd.func15 (by kernel_rfl) rfl #[.agg #[.int .i64 ((rd_T35 l0 x7_1).f0), .int .i64 ((rd_T35 l0 x7_1).f1), .int .u64 ((rd_T35 l0 x7_1).f2), .slice A156_3 ((rd_T35 l0 x7_1).f3).length c156_3]] rfl (by (try simp only [List.map_toArray, List.map_cons, List.map_nil]); first | done | rfl | (simp only [List.length_drop, List.length_take]; rfl)) ?_; (with_reducible refine (spec_Right.calls ((rd_T35 l0 x7_1).f0) ((rd_T35 l0 x7_1).f1) ((rd_T35 l0 x7_1).f2) _ _ ((rd_T35 l0 x7_1).f3) true _ ?side1 ?side2 A13.out).mono ?_); (case side1 => repeat (first | exact (Kd.C_below HR156_3.out HB.out) | (with_reducible refine Kd.C_alloc ?_ _) | (with_reducible refine Kd.C_drewN ?_ _) | (with_reducible refine Kd.C_drew ?_))); (case side2 => exact HC156_3.out); rintro e w15 ⟨rfl, hb⟩; refine ⟨_, rfl, ?_⟩; have n0_ := Aside0.mk (Kd.R_below (by (with_reducible repeat (first | apply Kd.R_alloc | apply Kd.R_drewN | apply Kd.R_drew)); exact HO_5.out) hb); have n1_ := Aside0.mk (below_step (by repeat (first | (with_reducible first | exact HB.out | apply below_alloc | apply pw_below_drewN | apply below_drew1) | exact HB.out)) hb); clear HO_5; clear HB; have HO_5 := n0_; have HB := n1_; clear n0_ n1_; (try clear hb); (try clear hb2); (try clear hk); (try clear hi); have p158 : 0 ≤ (x7_1 : Int) := of_decide_eq_true (by first | (with_reducible assumption) | assumption); have q158 : x7_1 < (l0.length : Int) := of_decide_eq_true (by first | (with_reducible assumption) | assumption); obtain ⟨ad158, A158_3, c158_3, e158, hx158_0, hx158_1, hx158_2, hx158_3, hl158_3, hi158_3⟩ := at_T35 HR0.out x7_1 p158 q158; obtain rfl : ad156 = ad158 := (by injection e158); replace hx158_0 := (HB.out.cell (World.block_lt_of_cell? w _ hx158_0)).trans hx158_0; replace hx158_1 := (HB.out.cell (World.block_lt_of_cell? w _ hx158_1)).trans hx158_1; replace hx158_2 := (HB.out.cell (World.block_lt_of_cell? w _ hx158_2)).trans hx158_2; replace hx158_3 := (HB.out.cell (World.block_lt_of_cell? w _ hx158_3)).trans hx158_3; have HR158_3 := Aside0.mk hi158_3; have HC158_3 := Aside0.mk hl158_3; clear hi158_3 hl158_3; replace p158 := eq_true p158; replace q158 := eq_true q158))
                  go_meet
                  case rel => exact ⟨_, (decide ((((rd_T35 l0 x7_1).f3).length : Int) > 200)), (by first | rfl | (simp; done) | (simp [*]; done)), H', ⟨by have := HK1.out; first | omega | exact Nat.le_refl _⟩, ⟨by (with_reducible repeat (first | apply Kd.R_alloc | apply Kd.R_drewN | apply Kd.R_drew)); exact HO_5.out⟩, ⟨by repeat (first | (with_reducible first | exact HB.out | apply below_alloc | apply pw_below_drewN | apply below_drew1) | exact HB.out)⟩⟩
                · replace c14 := Bool.eq_false_iff.mpr c14
                  subst c14
                  have H1 : (laws_FnProtoMessage.j1 k1 l0 a1 x5_1 0 x7_1 true) = some r := by rw [if_neg (show ¬ (false = true) by decide)] at H; exact H
                  clear H
                  have H := H1
                  clear H1
                  have H' := Aside0.mk H
                  clear H
                  have p156 : 0 ≤ (x7_1 : Int) := of_decide_eq_true (by first | (with_reducible assumption) | assumption)
                  have q156 : x7_1 < (l0.length : Int) := of_decide_eq_true (by first | (with_reducible assumption) | assumption)
                  obtain ⟨ad156, A156_3, c156_3, e156, hx156_0, hx156_1, hx156_2, hx156_3, hl156_3, hi156_3⟩ := at_T35 HR0.out x7_1 p156 q156
                  cases e156
                  replace hx156_0 := (HB.out.cell (World.block_lt_of_cell? w _ hx156_0)).trans hx156_0
                  replace hx156_1 := (HB.out.cell (World.block_lt_of_cell? w _ hx156_1)).trans hx156_1
                  replace hx156_2 := (HB.out.cell (World.block_lt_of_cell? w _ hx156_2)).trans hx156_2
                  replace hx156_3 := (HB.out.cell (World.block_lt_of_cell? w _ hx156_3)).trans hx156_3
                  have HR156_3 := Aside0.mk hi156_3
                  have HC156_3 := Aside0.mk hl156_3
                  clear hi156_3 hl156_3
                  replace p156 := eq_true p156
                  replace q156 := eq_true q156
                  go_wp2_with (first | ((with_reducible refine gate_callee (f := 15) rfl ?_); refine goesL_ (some 34) rfl rfl Tryd.func15 (by kernel_rfl) rfl #[.agg #[.int .i64 ((rd_T35 l0 x7_1).f0), .int .i64 ((rd_T35 l0 x7_1).f1), .int .u64 ((rd_T35 l0 x7_1).f2), .slice A156_3 ((rd_T35 l0 x7_1).f3).length c156_3]] rfl (by (try simp only [List.map_toArray, List.map_cons, List.map_nil]); first | done | rfl | (simp only [List.length_drop, List.length_take]; rfl)) ?_; (with_reducible refine (spec_Right.calls ((rd_T35 l0 x7_1).f0) ((rd_T35 l0 x7_1).f1) ((rd_T35 l0 x7_1).f2) _ _ ((rd_T35 l0 x7_1).f3) false _ ?side1 ?side2 A13.out).mono ?_); (case side1 => repeat (first | exact (Kd.C_below HR156_3.out HB.out) | (with_reducible refine Kd.C_alloc ?_ _) | (with_reducible refine Kd.C_drewN ?_ _) | (with_reducible refine Kd.C_drew ?_))); (case side2 => exact HC156_3.out); rintro e w16 ⟨rfl, hb⟩; refine ⟨_, rfl, ?_⟩; have n0_ := Aside0.mk (Kd.R_below (by (with_reducible repeat (first | apply Kd.R_alloc | apply Kd.R_drewN | apply Kd.R_drew)); exact HO_5.out) hb); have n1_ := Aside0.mk (below_step (by repeat (first | (with_reducible first | exact HB.out | apply below_alloc | apply pw_below_drewN | apply below_drew1) | exact HB.out)) hb); clear HO_5; clear HB; have HO_5 := n0_; have HB := n1_; clear n0_ n1_; (try clear hb); (try clear hb2); (try clear hk); (try clear hi)))
                  go_meet
                  case rel => exact ⟨_, (true), (by first | rfl | (simp; done) | (simp [*]; done)), H', ⟨by have := HK1.out; first | omega | exact Nat.le_refl _⟩, ⟨by (with_reducible repeat (first | apply Kd.R_alloc | apply Kd.R_drewN | apply Kd.R_drew)); exact HO_5.out⟩, ⟨by repeat (first | (with_reducible first | exact HB.out | apply below_alloc | apply pw_below_drewN | apply below_drew1) | exact HB.out)⟩⟩
              · rw [if_neg c12] at H
                exact absurd H (by simp)
            case rest =>
              clear HC11
              try clear c1
              try clear p1
              try clear q1
              try clear hx1
              try clear p2
              try clear c4
              try clear c5
              try clear c5b0
              try clear c5b1
              try clear c10
              try clear c10b0
              try clear c12
              try clear c12b0
              try clear c14
              try clear c15
              try clear p15
              try clear q15
              try clear hx15
              try clear hx156_0
              try clear hx156_1
              try clear hx156_2
              try clear hx156_3
              try clear hx158_0
              try clear hx158_1
              try clear hx158_2
              try clear hx158_3
              try clear p156
              try clear p158
              try clear p2
              try clear q156
              try clear q158
              obtain ⟨kq, x44_10, rfl, HA, HJ10, HO_5, HB⟩ := hcut
              cases kq with
              | zero => exact absurd HA.out (by simp [laws_FnProtoMessage.j1])
              | succ kj10 =>
                have H := HA.out
                clear HA
                simp only [laws_FnProtoMessage.j1] at H
                by_cases c17 : x44_10 = true
                · subst c17
                  have H1 : ((laws_awakeProto.f).bind fun t159 => (some t159)) = some r := by rw [if_pos rfl] at H; exact H
                  clear H
                  have H := H1
                  clear H1
                  replace H := Option.bind_eq_some_iff.mp H
                  obtain ⟨t159, A180, H⟩ := H
                  replace H : (some t159) = some r := H
                  have A18 := Aside0.mk A180
                  clear A180
                  obtain rfl := Option.some.inj H
                  go_wp2_with (first | ((with_reducible refine gate_callee (f := 10) rfl ?_); refine goesL_ (some 45) rfl rfl Tryd.func10 (by kernel_rfl) rfl #[] rfl (by (try simp only [List.map_toArray, List.map_cons, List.map_nil]); first | done | rfl | (simp only [List.length_drop, List.length_take]; rfl)) ?_; (with_reducible refine (laws_awakeProto.calls  t159 _ A18.out).mono ?_); rintro e w19 ⟨rfl, hb⟩; refine ⟨_, rfl, ?_⟩; have n0_ := Aside0.mk (Kd.R_below (by (with_reducible repeat (first | apply Kd.R_alloc | apply Kd.R_drewN | apply Kd.R_drew)); exact HO_5.out) hb); have n1_ := Aside0.mk (below_step (by repeat (first | (with_reducible first | exact HB.out | apply below_alloc | apply pw_below_drewN | apply below_drew1) | exact HB.out)) hb); clear HO_5; clear HB; have HO_5 := n0_; have HB := n1_; clear n0_ n1_; (try clear hb); (try clear hb2); (try clear hk); (try clear hi)))
                  go_ret
                  exact ⟨by first | rfl | (simp [errW_none, errW_some] <;> rfl) | (simp [*, errW_none, errW_some] <;> rfl) | (simp [errW_none, errW_some]; generalize ByteArray.toList _ = l_; cases l_ <;> rfl), by repeat (first | (with_reducible first | exact HB.out | apply below_alloc | apply pw_below_drewN | apply below_drew1) | exact HB.out)⟩
                · replace c17 := Bool.eq_false_iff.mpr c17
                  subst c17
                  have H1 : (if 0 ≤ x7_1 then (if x7_1 < (l0.length : Int) then ((spec_FieldBytes.f kj10 ((rd_T35 l0 x7_1).f0) ((rd_T35 l0 x7_1).f1) ((rd_T35 l0 x7_1).f2) ((rd_T35 l0 x7_1).f3)).bind fun t161 => (if x5_1.length + t161.length < 140737488355328 then (laws_FnProtoMessage.l0 kj10 l0 a1 (x5_1 ++ t161) 0 (wrap64 (x7_1 + 1))) else (none))) else (none)) else (none)) = some r := by rw [if_neg (show ¬ (false = true) by decide)] at H; exact H
                  clear H
                  have H := H1
                  clear H1
                  by_cases c20 : 0 ≤ x7_1
                  · rw [if_pos c20] at H
                    have c20b0 : decide (0 ≤ x7_1) = true := decide_eq_true c20
                    clear c20
                    by_cases c21 : x7_1 < (l0.length : Int)
                    · rw [if_pos c21] at H
                      have c21b0 : decide (x7_1 < (l0.length : Int)) = true := decide_eq_true c21
                      clear c21
                      replace H := Option.bind_eq_some_iff.mp H
                      obtain ⟨t161, A220, H⟩ := H
                      replace H : (if x5_1.length + t161.length < 140737488355328 then (laws_FnProtoMessage.l0 kj10 l0 a1 (x5_1 ++ t161) 0 (wrap64 (x7_1 + 1))) else (none)) = some r := H
                      have A22 := Aside0.mk A220
                      clear A220
                      by_cases c23 : x5_1.length + t161.length < 140737488355328
                      · rw [if_pos c23] at H
                        have LMc23 := Aside0.mk c23
                        clear c23
                        obtain ⟨y164, hy164⟩ : ∃ y_ : List Int, y_ = (x5_1 ++ t161) := ⟨_, rfl⟩
                        replace H : (laws_FnProtoMessage.l0 kj10 l0 a1 y164 0 (wrap64 (x7_1 + 1))) = some r := by first | (rw [hy164]; with_reducible exact H) | (have H2_ := (Option.bind_some _ _).symm.trans H; rw [hy164]; with_reducible exact H2_) | (have H2_ := (Option.bind_some _ _).symm.trans H; with_reducible exact H2_) | with_reducible exact H | (rw [hy164]; exact H) | exact H
                        have Ny164 := Aside0.mk hy164
                        clear hy164
                        have H' := Aside0.mk H
                        clear H
                        have p160 : 0 ≤ (x7_1 : Int) := of_decide_eq_true (by first | (with_reducible assumption) | assumption)
                        have q160 : x7_1 < (l0.length : Int) := of_decide_eq_true (by first | (with_reducible assumption) | assumption)
                        obtain ⟨ad160, A160_3, c160_3, e160, hx160_0, hx160_1, hx160_2, hx160_3, hl160_3, hi160_3⟩ := at_T35 HR0.out x7_1 p160 q160
                        cases e160
                        replace hx160_0 := (HB.out.cell (World.block_lt_of_cell? w _ hx160_0)).trans hx160_0
                        replace hx160_1 := (HB.out.cell (World.block_lt_of_cell? w _ hx160_1)).trans hx160_1
                        replace hx160_2 := (HB.out.cell (World.block_lt_of_cell? w _ hx160_2)).trans hx160_2
                        replace hx160_3 := (HB.out.cell (World.block_lt_of_cell? w _ hx160_3)).trans hx160_3
                        have HR160_3 := Aside0.mk hi160_3
                        have HC160_3 := Aside0.mk hl160_3
                        clear hi160_3 hl160_3
                        replace p160 := eq_true p160
                        replace q160 := eq_true q160
                        go_wp2_with (first | ((with_reducible refine gate_callee (f := 16) rfl ?_); refine goesL_ (some 51) rfl rfl Tryd.func16 (by kernel_rfl) rfl #[.agg #[.int .i64 ((rd_T35 l0 x7_1).f0), .int .i64 ((rd_T35 l0 x7_1).f1), .int .u64 ((rd_T35 l0 x7_1).f2), .slice A160_3 ((rd_T35 l0 x7_1).f3).length c160_3]] rfl (by (try simp only [List.map_toArray, List.map_cons, List.map_nil]); first | done | rfl | (simp only [List.length_drop, List.length_take]; rfl)) ?_; (with_reducible refine (spec_FieldBytes.calls kj10 ((rd_T35 l0 x7_1).f0) ((rd_T35 l0 x7_1).f1) ((rd_T35 l0 x7_1).f2) _ _ ((rd_T35 l0 x7_1).f3) t161 _ ?side1 ?side2 A22.out).mono ?_); (case side1 => repeat (first | exact (Kd.C_below HR160_3.out HB.out) | (with_reducible refine Kd.C_alloc ?_ _) | (with_reducible refine Kd.C_drewN ?_ _) | (with_reducible refine Kd.C_drew ?_))); (case side2 => exact HC160_3.out); rintro e w24 ⟨v162, rfl, ho0, hb⟩; refine ⟨_, rfl, ?_⟩; have n0_ := Aside0.mk (Kd.R_elder' (by (with_reducible repeat (first | apply Kd.R_alloc | apply Kd.R_drewN | apply Kd.R_drew)); exact HO_5.out) (Kd.R_base ho0) hb); have n1_ := Aside0.mk (Kd.R_lower (Kd.R_new' ho0 (Kd.R_lt (by (with_reducible repeat (first | apply Kd.R_alloc | apply Kd.R_drewN | apply Kd.R_drew)); exact HO_5.out))) (below_size (by repeat (first | (with_reducible first | exact HB.out | apply below_alloc | apply pw_below_drewN | apply below_drew1) | exact HB.out)))); have n2_ := Aside0.mk (below_step (by repeat (first | (with_reducible first | exact HB.out | apply below_alloc | apply pw_below_drewN | apply below_drew1) | exact HB.out)) hb); clear HO_5; clear HB; have HO_5 := n0_; have HO163 := n1_; have HB := n2_; clear n0_ n1_ n2_; (try clear hb); (try clear hb2); (try clear hk); (try clear hi); (try clear ho0); obtain ⟨Ao26, co26, eo26⟩ := Kd.R_slice HO163.out; subst eo26) | ((with_reducible refine gate_builtin (b := .append) (xs := #[.tmp 46, .tmp 51]) rfl ?_); (try (refine gate_guard (by rfl) ?_; dsimp only)); at_builtin; refine Kd.R_append_rows (Kd.int .u8) (w0 := w) w.heap.size rfl (.tmp 46) (.tmp 51) 22 5 (.int .u8 0) 1 rfl Tryd.underlying22 info5 rfl (by decide) (by omega) u5 x5_1 t161 _ _ _ (fun k_ => some k_ ≠ (.slice Ao26 t161.length co26 : Value).ownBlock) (fun _ => False) rfl rfl ?aO ?aR (fun _ _ h => h) (fun _ h => h.elim) ?aF ?aB ?aS ?aL ?_; (case aR => repeat (first | exact (Kd.R_reads' HO163.out).2.2 | (with_reducible refine Kd.C_alloc ?_ _) | (with_reducible refine Kd.C_drewN ?_ _) | (with_reducible refine Kd.C_drew ?_))); (case aB => exact (by repeat (first | (with_reducible first | exact HB.out | apply below_alloc | apply pw_below_drewN | apply below_drew1) | exact HB.out))); (case aF => exact (fun k_ hk => Kd.fresh' (Kd.R_lt (by (with_reducible repeat (first | apply Kd.R_alloc | apply Kd.R_drewN | apply Kd.R_drew)); exact HO163.out)) k_ hk)); (case aO => exact (by (with_reducible repeat (first | apply Kd.R_alloc | apply Kd.R_drewN | apply Kd.R_drew)); exact Kd.R_mono HO_5.out (fun _ hk => hk.2))); (case aS => exact (below_size (by repeat (first | (with_reducible first | exact HB.out | apply below_alloc | apply pw_below_drewN | apply below_drew1) | exact HB.out)))); (case aL => have := LMc23.out; omega); intro v165 w25 ho hb hg hat; rw [← Ny164.out] at ho; have n0_ := Aside0.mk (Kd.R_after (ok := (fun _ => True)) (by (with_reducible repeat (first | apply Kd.R_alloc | apply Kd.R_drewN | apply Kd.R_drew)); exact HO163.out) hg hat); have n1_ := Aside0.mk (hb); have n2_ := Aside0.mk (ho); clear HO163; clear HB; clear HO_5; have HO163 := n0_; have HB := n1_; have HO166 := n2_; clear n0_ n1_ n2_; clear ho hb hg hat))
                        go_roundg kj10
                        case measure => have := HK1.out; have := HJ10.out; omega
                        case rel => exact ⟨(y164), (wrap64 (x7_1 + 1)), (by first | rfl | (simp; done) | (simp [*]; done)), H', ⟨by have := HK1.out; have := HJ10.out; omega⟩, ⟨by (with_reducible repeat (first | apply Kd.R_alloc | apply Kd.R_drewN | apply Kd.R_drew)); exact Kd.R_mono HO166.out (fun _ hk => trivial)⟩, ⟨by repeat (first | (with_reducible first | exact HB.out | apply below_alloc | apply pw_below_drewN | apply below_drew1) | exact HB.out)⟩⟩
                      · rw [if_neg c23] at H
                        exact absurd H (by simp)
                    · rw [if_neg c21] at H
                      exact absurd H (by simp)
                  · rw [if_neg c20] at H
                    exact absurd H (by simp)
          · rw [if_neg c10] at H
            have c10b0 : decide (x7_1 < (l0.length : Int)) = false := decide_eq_false c10
            clear c10
            have H' := Aside0.mk H
            clear H
            go_wp2
            go_loopg [6, 8] k1 (fun kq v6 v8 w' => ∃ (x6_2 : Int) (x8_2 : Int), v6 = .int .i64 x6_2 ∧ v8 = .int .i64 x8_2 ∧ Aside0 (laws_FnProtoMessage.l1 kq l0 a1 x5_1 x6_2 x8_2 = some r) ∧ Aside0 (kq ≤ k1) ∧ Aside0 (Kd.R (Kd.int .u8) 5 w' w.heap.size (fun _ => True) u5 x5_1) ∧ Aside0 (Below w.heap.size w w'))
            case atStart => exact ⟨(0), (0), (by first | rfl | (simp; done) | (simp [*]; done)), (by first | rfl | (simp; done) | (simp [*]; done)), H', ⟨Nat.le_refl _⟩, ⟨by (with_reducible repeat (first | apply Kd.R_alloc | apply Kd.R_drewN | apply Kd.R_drew)); exact HO_5.out⟩, ⟨by repeat (first | (with_reducible first | exact HB.out | apply below_alloc | apply pw_below_drewN | apply below_drew1) | exact HB.out)⟩⟩
            case round =>
              clear H'
              try clear c1
              try clear p1
              try clear q1
              try clear hx1
              try clear c2
              try clear p2
              try clear c4
              try clear c5
              try clear c5b0
              try clear c5b1
              try clear p6
              try clear c10
              try clear c10b0
              try clear c12
              try clear c12b0
              try clear c14
              try clear c15
              try clear p15
              try clear q15
              try clear hx15
              try clear c16
              try clear p16
              try clear q16
              try clear hx16
              try clear c17
              try clear c20
              try clear c20b0
              try clear c21
              try clear c21b0
              try clear c23
              try clear hx156_0
              try clear hx156_1
              try clear hx156_2
              try clear hx156_3
              try clear hx158_0
              try clear hx158_1
              try clear hx158_2
              try clear hx158_3
              try clear hx160_0
              try clear hx160_1
              try clear hx160_2
              try clear hx160_3
              try clear p1
              try clear p15
              try clear p156
              try clear p158
              try clear p160
              try clear p2
              try clear q1
              try clear q15
              try clear q156
              try clear q158
              try clear q160
              obtain ⟨x6_2, x8_2, rfl, rfl, HA, HK2, HO_5, HB⟩ := hrel
              cases gk with
              | zero => exact absurd HA.out (by simp [laws_FnProtoMessage.l1])
              | succ k2 =>
                have H := HA.out
                clear HA
                simp only [laws_FnProtoMessage.l1] at H
                by_cases c27 : x8_2 < (l0.length : Int)
                · rw [if_pos c27] at H
                  have c27b0 : decide (x8_2 < (l0.length : Int)) = true := decide_eq_true c27
                  clear c27
                  obtain ⟨y168, hy168⟩ : ∃ y_ : List Int, y_ = (([] : List Int)) := ⟨_, rfl⟩
                  replace H : (if 0 ≤ x6_2 then (if x6_2 ≤ (x5_1.length : Int) then ((some (x5_1.drop (x6_2 : Int).toNat : List Int)).bind fun y171 => (if y168.length + y171.length < 140737488355328 then ((impl_ProtoField.f (y168 ++ y171)).bind fun bt178 => (if bt178.2.2.2 = 0 then (if 0 ≤ x8_2 then (if bt178.1 = ((rd_T35 l0 x8_2).f0) then (if bt178.2.1 = ((rd_T35 l0 x8_2).f1) then ((spec_FieldBytes.f k2 ((rd_T35 l0 x8_2).f0) ((rd_T35 l0 x8_2).f1) ((rd_T35 l0 x8_2).f2) ((rd_T35 l0 x8_2).f3)).bind fun t185 => (laws_FnProtoMessage.j3 k2 l0 a1 x5_1 x6_2 x8_2 bt178.2.2.1 (bt178.2.2.1 != (t185.length : Int)))) else (laws_FnProtoMessage.j3 k2 l0 a1 x5_1 x6_2 x8_2 bt178.2.2.1 true)) else (laws_FnProtoMessage.j3 k2 l0 a1 x5_1 x6_2 x8_2 bt178.2.2.1 true)) else (none)) else (laws_FnProtoMessage.j3 k2 l0 a1 x5_1 x6_2 x8_2 bt178.2.2.1 true))) else (none))) else (none)) else (none)) = some r := by first | (rw [hy168]; with_reducible exact H) | (have H2_ := (Option.bind_some _ _).symm.trans H; rw [hy168]; with_reducible exact H2_) | (have H2_ := (Option.bind_some _ _).symm.trans H; with_reducible exact H2_) | with_reducible exact H | (rw [hy168]; exact H) | exact H
                  have Ny168 := Aside0.mk hy168
                  clear hy168
                  by_cases c28 : 0 ≤ x6_2
                  · rw [if_pos c28] at H
                    have c28b0 := eq_true c28
                    have c28b1 : decide (0 ≤ x6_2) = true := decide_eq_true c28
                    clear c28
                    by_cases c29 : x6_2 ≤ (x5_1.length : Int)
                    · rw [if_pos c29] at H
                      have c29b0 := eq_true c29
                      have c29b1 : decide (x6_2 ≤ (x5_1.length : Int)) = true := decide_eq_true c29
                      clear c29
                      obtain ⟨y171, hy171⟩ : ∃ y_ : List Int, y_ = (x5_1.drop (x6_2 : Int).toNat) := ⟨_, rfl⟩
                      replace H : (if y168.length + y171.length < 140737488355328 then ((impl_ProtoField.f (y168 ++ y171)).bind fun bt178 => (if bt178.2.2.2 = 0 then (if 0 ≤ x8_2 then (if bt178.1 = ((rd_T35 l0 x8_2).f0) then (if bt178.2.1 = ((rd_T35 l0 x8_2).f1) then ((spec_FieldBytes.f k2 ((rd_T35 l0 x8_2).f0) ((rd_T35 l0 x8_2).f1) ((rd_T35 l0 x8_2).f2) ((rd_T35 l0 x8_2).f3)).bind fun t185 => (laws_FnProtoMessage.j3 k2 l0 a1 x5_1 x6_2 x8_2 bt178.2.2.1 (bt178.2.2.1 != (t185.length : Int)))) else (laws_FnProtoMessage.j3 k2 l0 a1 x5_1 x6_2 x8_2 bt178.2.2.1 true)) else (laws_FnProtoMessage.j3 k2 l0 a1 x5_1 x6_2 x8_2 bt178.2.2.1 true)) else (none)) else (laws_FnProtoMessage.j3 k2 l0 a1 x5_1 x6_2 x8_2 bt178.2.2.1 true))) else (none)) = some r := by first | (rw [hy171]; with_reducible exact H) | (have H2_ := (Option.bind_some _ _).symm.trans H; rw [hy171]; with_reducible exact H2_) | (have H2_ := (Option.bind_some _ _).symm.trans H; with_reducible exact H2_) | with_reducible exact H | (rw [hy171]; exact H) | exact H
                      have Ny171 := Aside0.mk hy171
                      clear hy171
                      by_cases c30 : y168.length + y171.length < 140737488355328
                      · rw [if_pos c30] at H
                        have LMc30 := Aside0.mk c30
                        clear c30
                        obtain ⟨y175, hy175⟩ : ∃ y_ : List Int, y_ = (y168 ++ y171) := ⟨_, rfl⟩
                        replace H : ((impl_ProtoField.f y175).bind fun bt178 => (if bt178.2.2.2 = 0 then (if 0 ≤ x8_2 then (if bt178.1 = ((rd_T35 l0 x8_2).f0) then (if bt178.2.1 = ((rd_T35 l0 x8_2).f1) then ((spec_FieldBytes.f k2 ((rd_T35 l0 x8_2).f0) ((rd_T35 l0 x8_2).f1) ((rd_T35 l0 x8_2).f2) ((rd_T35 l0 x8_2).f3)).bind fun t185 => (laws_FnProtoMessage.j3 k2 l0 a1 x5_1 x6_2 x8_2 bt178.2.2.1 (bt178.2.2.1 != (t185.length : Int)))) else (laws_FnProtoMessage.j3 k2 l0 a1 x5_1 x6_2 x8_2 bt178.2.2.1 true)) else (laws_FnProtoMessage.j3 k2 l0 a1 x5_1 x6_2 x8_2 bt178.2.2.1 true)) else (none)) else (laws_FnProtoMessage.j3 k2 l0 a1 x5_1 x6_2 x8_2 bt178.2.2.1 true))) = some r := by first | (rw [hy175]; with_reducible exact H) | (have H2_ := (Option.bind_some _ _).symm.trans H; rw [hy175]; with_reducible exact H2_) | (have H2_ := (Option.bind_some _ _).symm.trans H; with_reducible exact H2_) | with_reducible exact H | (rw [hy175]; exact H) | exact H
                        have Ny175 := Aside0.mk hy175
                        clear hy175
                        replace H := Option.bind_eq_some_iff.mp H
                        obtain ⟨⟨t178, t179, t180, t181⟩, A310, H⟩ := H
                        replace H : (if t181 = 0 then (if 0 ≤ x8_2 then (if t178 = ((rd_T35 l0 x8_2).f0) then (if t179 = ((rd_T35 l0 x8_2).f1) then ((spec_FieldBytes.f k2 ((rd_T35 l0 x8_2).f0) ((rd_T35 l0 x8_2).f1) ((rd_T35 l0 x8_2).f2) ((rd_T35 l0 x8_2).f3)).bind fun t185 => (laws_FnProtoMessage.j3 k2 l0 a1 x5_1 x6_2 x8_2 t180 (t180 != (t185.length : Int)))) else (laws_FnProtoMessage.j3 k2 l0 a1 x5_1 x6_2 x8_2 t180 true)) else (laws_FnProtoMessage.j3 k2 l0 a1 x5_1 x6_2 x8_2 t180 true)) else (none)) else (laws_FnProtoMessage.j3 k2 l0 a1 x5_1 x6_2 x8_2 t180 true)) = some r := H
                        have A31 := Aside0.mk A310
                        clear A310
                        have HC32 := Aside0.mk H
                        clear H
                        go_upto_region 17 with (first | ((with_reducible refine gate_dst (N := 60) rfl ?_); (try (refine gate_guard (by rfl) ?_; dsimp only)); refine Kd.R_lit (Kd.int .u8) _ 5 ?hg (N := 60) ?hd (xs := ([] : List Int)) (inner := []) (ok := fun _ => True) (okp := fun _ => True) ?hr ?hp (fun _ hk => hk) trivial (Below.refl _ _) (Nat.le_refl _) (by simp) ?_; (case hd => rfl); (case hg => rfl); (case hr => first | (go_simp; done) | (go_simp; rfl)); (case hp => exact (Reps.none _ _)); intro v169 w33 ho34 hb hg_ hnew_; clear hg_ hnew_; (first | rw [← Ny168.out] at ho34 | (simp only [Int.reduceToNat] at ho34; rw [← Ny168.out] at ho34)); have n0_ := Aside0.mk (Kd.R_elder' (by (with_reducible repeat (first | apply Kd.R_alloc | apply Kd.R_drewN | apply Kd.R_drew)); exact HO_5.out) (Kd.R_base ho34) hb); have n1_ := Aside0.mk (Kd.R_lower (Kd.R_new' ho34 (Kd.R_lt (by (with_reducible repeat (first | apply Kd.R_alloc | apply Kd.R_drewN | apply Kd.R_drew)); exact HO_5.out))) (below_size (by repeat (first | (with_reducible first | exact HB.out | apply below_alloc | apply pw_below_drewN | apply below_drew1) | exact HB.out)))); have n2_ := Aside0.mk (below_step (by repeat (first | (with_reducible first | exact HB.out | apply below_alloc | apply pw_below_drewN | apply below_drew1) | exact HB.out)) hb); clear HO_5; clear HB; have HO_5 := n0_; have HO170 := n1_; have HB := n2_; clear n0_ n1_ n2_; clear hb ho34; obtain ⟨Ao36, co36, eo36⟩ := Kd.R_slice HO_5.out; subst eo36; have q35 : (x6_2 : Int) ≤ ((x5_1.length : Int) : Int) := of_decide_eq_true (by first | (with_reducible assumption) | assumption); obtain ⟨i035, hi035, _, hsz35, _⟩ := info_parts info5; have hroom35 : x5_1.length ≤ co36 := (Kd.R_reads' HO_5.out).2.1; have hC35 : Kd.C (Kd.int .u8) _ Ao36 x5_1.length x5_1 := (Kd.R_reads' HO_5.out).2.2; have q035 : (0 : Int) ≤ (x6_2 : Int) := of_decide_eq_true (by first | (with_reducible assumption) | assumption); have hcut35 := cut_from (P := Tryd.prog) 22 5 .i64 Tryd.underlying22 hi035 1 hsz35 Ao36 x5_1.length co36 x6_2 q035 q35; have hr35 := Kd.C_drop (m := (x6_2 : Int).toNat) (c := co36) hC35 (by omega) hroom35; obtain ⟨A35, hA35⟩ : ∃ A1, A1 = (if co36 = (x6_2 : Int).toNat then Ao36 else (Ao36 : Option Addr).map (·.add ((x6_2 : Int).toNat * 1))) := ⟨_, rfl⟩; obtain ⟨c35, hc35⟩ : ∃ c1, c1 = co36 - (x6_2 : Int).toNat := ⟨_, rfl⟩; have hy35 : y171.length = x5_1.length - (x6_2 : Int).toNat := (by rw [Ny171.out, List.length_drop] <;> omega); rw [show (x5_1).drop (x6_2 : Int).toNat = y171 from Ny171.out.symm] at hr35; replace hr35 : Kd.C (Kd.int .u8) _ A35 y171.length y171 := (by rw [hA35]; exact hr35); rw [← hy35, ← hA35, ← hc35] at hcut35; have HR174 := Aside0.mk hr35; have HC174 := Aside0.mk (show y171.length ≤ c35 from by rw [hy35, hc35]; exact Nat.sub_le_sub_right hroom35 _); clear hr35 hC35 hroom35 hi035 hsz35 hc35; have KY35 := Aside0.mk hy35; have KA35 := Aside0.mk hA35; clear hy35 hA35; have KL35 := Aside0.mk (show (x6_2 : Int).toNat ≤ x5_1.length from by omega); replace q35 := eq_true q35) | ((with_reducible refine gate_builtin (b := .append) (xs := #[.tmp 60, .tmp 63]) rfl ?_); (try (refine gate_guard (by rfl) ?_; dsimp only)); at_builtin; refine Kd.R_append_rows (Kd.int .u8) (w0 := w) w.heap.size rfl (.tmp 60) (.tmp 63) 22 5 (.int .u8 0) 1 rfl Tryd.underlying22 info5 rfl (by decide) (by omega) v169 y168 y171 _ _ _ (fun k_ => some k_ ≠ (.slice Ao36 x5_1.length co36 : Value).ownBlock) (fun _ => False) rfl rfl ?aO ?aR (fun _ _ h => h) (fun _ h => h.elim) ?aF ?aB ?aS ?aL ?_; (case aR => repeat (first | exact (by repeat (first | (with_reducible exact HR174.out) | (with_reducible refine Kd.C_alloc ?_ _) | (with_reducible refine Kd.C_drewN ?_ _) | (with_reducible refine Kd.C_drew ?_) | exact HR174.out)) | (with_reducible refine Kd.C_alloc ?_ _) | (with_reducible refine Kd.C_drewN ?_ _) | (with_reducible refine Kd.C_drew ?_))); (case aB => exact (by repeat (first | (with_reducible first | exact HB.out | apply below_alloc | apply pw_below_drewN | apply below_drew1) | exact HB.out))); (case aF => exact (fun k_ hk => Kd.fresh' (Kd.R_lt (by (with_reducible repeat (first | apply Kd.R_alloc | apply Kd.R_drewN | apply Kd.R_drew)); exact HO_5.out)) k_ hk)); (case aO => exact (by (with_reducible repeat (first | apply Kd.R_alloc | apply Kd.R_drewN | apply Kd.R_drew)); exact Kd.R_mono HO170.out (fun _ hk => hk.2))); (case aS => exact (below_size (by repeat (first | (with_reducible first | exact HB.out | apply below_alloc | apply pw_below_drewN | apply below_drew1) | exact HB.out)))); (case aL => have := LMc30.out; omega); intro v176 w37 ho hb hg hat; rw [← Ny175.out] at ho; have n0_ := Aside0.mk (Kd.R_after (ok := (fun _ => True)) (by (with_reducible repeat (first | apply Kd.R_alloc | apply Kd.R_drewN | apply Kd.R_drew)); exact HO_5.out) hg hat); have n1_ := Aside0.mk (hb); have n2_ := Aside0.mk ((show Kd.C (Kd.int .u8) w37 A35 y171.length y171 from by rw [Ny171.out, KA35.out]; exact Kd.C_drop (m := (x6_2 : Int).toNat) (c := co36) ((Kd.R_reads' (Kd.R_after (ok := (fun _ => True)) (by (with_reducible repeat (first | apply Kd.R_alloc | apply Kd.R_drewN | apply Kd.R_drew)); exact HO_5.out) hg hat)).2.2) KL35.out ((Kd.R_reads' (Kd.R_after (ok := (fun _ => True)) (by (with_reducible repeat (first | apply Kd.R_alloc | apply Kd.R_drewN | apply Kd.R_drew)); exact HO_5.out) hg hat)).2.1))); have n3_ := Aside0.mk (ho); clear HO_5; clear HB; clear HR174; clear HO170; have HO_5 := n0_; have HB := n1_; have HR174 := n2_; have HO177 := n3_; clear n0_ n1_ n2_ n3_; clear ho hb hg hat; obtain ⟨Ao38, co38, eo38⟩ := Kd.R_slice HO177.out; subst eo38) | ((with_reducible refine gate_callee (f := 17) rfl ?_); refine goesL_ (some 65) rfl rfl Tryd.func17 (by kernel_rfl) rfl #[.slice Ao38 y175.length co38] rfl (by (try simp only [List.map_toArray, List.map_cons, List.map_nil]); first | done | rfl | (simp only [List.length_drop, List.length_take]; rfl)) ?_; (with_reducible refine (impl_ProtoField.calls _ _ y175 t178 t179 t180 t181 _ ?side1 ?side2 A31.out (HE_.out.below (by repeat (first | (with_reducible first | exact HB.out | apply below_alloc | apply pw_below_drewN | apply below_drew1) | exact HB.out)))).mono ?_); (case side1 => repeat (first | exact (Kd.R_reads' HO177.out).2.2 | (with_reducible refine Kd.C_alloc ?_ _) | (with_reducible refine Kd.C_drewN ?_ _) | (with_reducible refine Kd.C_drew ?_))); (case side2 => exact (Kd.R_reads' HO177.out).2.1); rintro e w39 ⟨rfl, hb⟩; refine ⟨_, rfl, ?_⟩; have n0_ := Aside0.mk (Kd.R_below (by (with_reducible repeat (first | apply Kd.R_alloc | apply Kd.R_drewN | apply Kd.R_drew)); exact HO_5.out) hb); have n1_ := Aside0.mk (Kd.R_below (by (with_reducible repeat (first | apply Kd.R_alloc | apply Kd.R_drewN | apply Kd.R_drew)); exact HO177.out) hb); have n2_ := Aside0.mk (Kd.C_below (by repeat (first | (with_reducible exact HR174.out) | (with_reducible refine Kd.C_alloc ?_ _) | (with_reducible refine Kd.C_drewN ?_ _) | (with_reducible refine Kd.C_drew ?_) | exact HR174.out)) hb); have n3_ := Aside0.mk (below_step (by repeat (first | (with_reducible first | exact HB.out | apply below_alloc | apply pw_below_drewN | apply below_drew1) | exact HB.out)) hb); clear HO_5; clear HO177; clear HR174; clear HB; have HO_5 := n0_; have HO177 := n1_; have HR174 := n2_; have HB := n3_; clear n0_ n1_ n2_ n3_; (try clear hb); (try clear hb2); (try clear hk); (try clear hi)))
                        (try simp only [Act.put, List.setIfInBounds_toArray, List.set_cons_zero, List.set_cons_succ])
                        go_cut [99] (fun v99 wc => ∃ (kq : Nat) (x99_31 : Bool) (A174 : Option Addr), v99 = .bool x99_31 ∧ Aside0 (laws_FnProtoMessage.j3 kq l0 a1 x5_1 x6_2 x8_2 t180 x99_31 = some r) ∧ Aside0 (kq ≤ k2) ∧ Aside0 (Kd.R (Kd.int .u8) 5 wc w.heap.size (fun _ => True) (.slice Ao36 x5_1.length co36) x5_1) ∧ Aside0 (Kd.C (Kd.int .u8) wc A174 y171.length y171) ∧ Aside0 (Below w.heap.size w wc))
                        case first =>
                          have H := HC32.out
                          clear HC32
                          by_cases c40 : t181 = 0
                          · rw [if_pos c40] at H
                            have c40b0 : (t181 == 0) = true := beq_iff_eq.mpr c40
                            have c40b1 : (t181 != 0) = false := bne_eq_false_iff_eq.mpr c40
                            clear c40
                            (first | rw [c40b0] | (simp only [i64_w, i32_w]; rw [c40b0]) | skip)
                            by_cases c41 : 0 ≤ x8_2
                            · rw [if_pos c41] at H
                              have c41b0 : decide (0 ≤ x8_2) = true := decide_eq_true c41
                              clear c41
                              by_cases c42 : t178 = ((rd_T35 l0 x8_2).f0)
                              · rw [if_pos c42] at H
                                have c42b0 : (t178 == ((rd_T35 l0 x8_2).f0)) = true := beq_iff_eq.mpr c42
                                have c42b1 : (t178 != ((rd_T35 l0 x8_2).f0)) = false := bne_eq_false_iff_eq.mpr c42
                                clear c42
                                by_cases c43 : t179 = ((rd_T35 l0 x8_2).f1)
                                · rw [if_pos c43] at H
                                  have c43b0 : (t179 == ((rd_T35 l0 x8_2).f1)) = true := beq_iff_eq.mpr c43
                                  have c43b1 : (t179 != ((rd_T35 l0 x8_2).f1)) = false := bne_eq_false_iff_eq.mpr c43
                                  clear c43
                                  replace H := Option.bind_eq_some_iff.mp H
                                  obtain ⟨t185, A440, H⟩ := H
                                  replace H : (laws_FnProtoMessage.j3 k2 l0 a1 x5_1 x6_2 x8_2 t180 (t180 != (t185.length : Int))) = some r := H
                                  have A44 := Aside0.mk A440
                                  clear A440
                                  have H' := Aside0.mk H
                                  clear H
                                  have p182 : 0 ≤ (x8_2 : Int) := of_decide_eq_true (by first | (with_reducible assumption) | assumption)
                                  have q182 : x8_2 < (l0.length : Int) := of_decide_eq_true (by first | (with_reducible assumption) | assumption)
                                  obtain ⟨ad182, A182_3, c182_3, e182, hx182_0, hx182_1, hx182_2, hx182_3, hl182_3, hi182_3⟩ := at_T35 HR0.out x8_2 p182 q182
                                  cases e182
                                  replace hx182_0 := (HB.out.cell (World.block_lt_of_cell? w _ hx182_0)).trans hx182_0
                                  replace hx182_1 := (HB.out.cell (World.block_lt_of_cell? w _ hx182_1)).trans hx182_1
                                  replace hx182_2 := (HB.out.cell (World.block_lt_of_cell? w _ hx182_2)).trans hx182_2
                                  replace hx182_3 := (HB.out.cell (World.block_lt_of_cell? w _ hx182_3)).trans hx182_3
                                  have HR182_3 := Aside0.mk hi182_3
                                  have HC182_3 := Aside0.mk hl182_3
                                  clear hi182_3 hl182_3
                                  replace p182 := eq_true p182
                                  replace q182 := eq_true q182
                                  have p183 : 0 ≤ (x8_2 : Int) := of_decide_eq_true (by first | (with_reducible assumption) | assumption)
                                  have q183 : x8_2 < (l0.length : Int) := of_decide_eq_true (by first | (with_reducible assumption) | assumption)
                                  obtain ⟨ad183, A183_3, c183_3, e183, hx183_0, hx183_1, hx183_2, hx183_3, hl183_3, hi183_3⟩ := at_T35 HR0.out x8_2 p183 q183
                                  obtain rfl : ad182 = ad183 := (by injection e183)
                                  replace hx183_0 := (HB.out.cell (World.block_lt_of_cell? w _ hx183_0)).trans hx183_0
                                  replace hx183_1 := (HB.out.cell (World.block_lt_of_cell? w _ hx183_1)).trans hx183_1
                                  replace hx183_2 := (HB.out.cell (World.block_lt_of_cell? w _ hx183_2)).trans hx183_2
                                  replace hx183_3 := (HB.out.cell (World.block_lt_of_cell? w _ hx183_3)).trans hx183_3
                                  have HR183_3 := Aside0.mk hi183_3
                                  have HC183_3 := Aside0.mk hl183_3
                                  clear hi183_3 hl183_3
                                  replace p183 := eq_true p183
                                  replace q183 := eq_true q183
                                  have ea_ := Option.some.inj (hx182_3.symm.trans hx183_3)
                                  injection ea_ with ea_ en_ ec_
                                  subst ea_
                                  subst ec_
                                  clear en_
                                  have p184 : 0 ≤ (x8_2 : Int) := of_decide_eq_true (by first | (with_reducible assumption) | assumption)
                                  have q184 : x8_2 < (l0.length : Int) := of_decide_eq_true (by first | (with_reducible assumption) | assumption)
                                  obtain ⟨ad184, A184_3, c184_3, e184, hx184_0, hx184_1, hx184_2, hx184_3, hl184_3, hi184_3⟩ := at_T35 HR0.out x8_2 p184 q184
                                  obtain rfl : ad182 = ad184 := (by injection e184)
                                  replace hx184_0 := (HB.out.cell (World.block_lt_of_cell? w _ hx184_0)).trans hx184_0
                                  replace hx184_1 := (HB.out.cell (World.block_lt_of_cell? w _ hx184_1)).trans hx184_1
                                  replace hx184_2 := (HB.out.cell (World.block_lt_of_cell? w _ hx184_2)).trans hx184_2
                                  replace hx184_3 := (HB.out.cell (World.block_lt_of_cell? w _ hx184_3)).trans hx184_3
                                  have HR184_3 := Aside0.mk hi184_3
                                  have HC184_3 := Aside0.mk hl184_3
                                  clear hi184_3 hl184_3
                                  replace p184 := eq_true p184
                                  replace q184 := eq_true q184
                                  have ea_ := Option.some.inj (hx182_3.symm.trans hx184_3)
                                  injection ea_ with ea_ en_ ec_
                                  subst ea_
                                  subst ec_
                                  clear en_
                                  go_wp2_with (first | (go_at_call 16; (with_reducible refine (spec_FieldBytes.calls k2 ((rd_T35 l0 x8_2).f0) ((rd_T35 l0 x8_2).f1) ((rd_T35 l0 x8_2).f2) _ _ ((rd_T35 l0 x8_2).f3) t185 _ ?side1 ?side2 A44.out).mono ?_); (case side1 => repeat (first | exact (Kd.C_below HR184_3.out HB.out) | (with_reducible refine Kd.C_alloc ?_ _) | (with_reducible refine Kd.C_drewN ?_ _) | (with_reducible refine Kd.C_drew ?_))); (case side2 => exact HC184_3.out); rintro e w45 ⟨v186, rfl, ho0, hb⟩; have n0_ := Aside0.mk (Kd.R_elder' (by (with_reducible repeat (first | apply Kd.R_alloc | apply Kd.R_drewN | apply Kd.R_drew)); exact HO_5.out) (Kd.R_base ho0) hb); have n1_ := Aside0.mk (Kd.R_elder' (by (with_reducible repeat (first | apply Kd.R_alloc | apply Kd.R_drewN | apply Kd.R_drew)); exact HO177.out) (Kd.R_base ho0) hb); have n2_ := Aside0.mk (Kd.R_lower (Kd.R_new' (Kd.R_new' ho0 (Kd.R_lt (by (with_reducible repeat (first | apply Kd.R_alloc | apply Kd.R_drewN | apply Kd.R_drew)); exact HO_5.out))) (Kd.R_lt (by (with_reducible repeat (first | apply Kd.R_alloc | apply Kd.R_drewN | apply Kd.R_drew)); exact HO177.out))) (below_size (by repeat (first | (with_reducible first | exact HB.out | apply below_alloc | apply pw_below_drewN | apply below_drew1) | exact HB.out)))); have n3_ := Aside0.mk (Kd.C_below (by repeat (first | (with_reducible exact HR174.out) | (with_reducible refine Kd.C_alloc ?_ _) | (with_reducible refine Kd.C_drewN ?_ _) | (with_reducible refine Kd.C_drew ?_) | exact HR174.out)) hb); have n4_ := Aside0.mk (below_step (by repeat (first | (with_reducible first | exact HB.out | apply below_alloc | apply pw_below_drewN | apply below_drew1) | exact HB.out)) hb); clear HO_5; clear HO177; clear HR174; clear HB; have HO_5 := n0_; have HO177 := n1_; have HO187 := n2_; have HR174 := n3_; have HB := n4_; clear n0_ n1_ n2_ n3_ n4_; (try clear hb); (try clear hb2); (try clear hk); (try clear hi); (try clear ho0); obtain ⟨Ao46, co46, eo46⟩ := Kd.R_slice HO187.out; subst eo46))
                                  go_meet
                                  case rel => exact ⟨_, ((t180 != (t185.length : Int))), _, (by first | rfl | (simp; done) | (simp [*]; done)), H', ⟨by have := HK1.out; have := HK2.out; first | omega | exact Nat.le_refl _⟩, ⟨by (with_reducible repeat (first | apply Kd.R_alloc | apply Kd.R_drewN | apply Kd.R_drew)); exact Kd.R_mono HO_5.out (fun _ hk => trivial)⟩, ⟨by repeat (first | (with_reducible exact HR174.out) | (with_reducible refine Kd.C_alloc ?_ _) | (with_reducible refine Kd.C_drewN ?_ _) | (with_reducible refine Kd.C_drew ?_) | exact HR174.out)⟩, ⟨by repeat (first | (with_reducible first | exact HB.out | apply below_alloc | apply pw_below_drewN | apply below_drew1) | exact HB.out)⟩⟩
                                · rw [if_neg c43] at H
                                  have c43b0 : (t179 == ((rd_T35 l0 x8_2).f1)) = false := beq_eq_false_iff_ne.mpr c43
                                  have c43b1 : (t179 != ((rd_T35 l0 x8_2).f1)) = true := bne_iff_ne.mpr c43
                                  have H' := Aside0.mk H
                                  clear H
                                  have p182 : 0 ≤ (x8_2 : Int) := of_decide_eq_true (by first | (with_reducible assumption) | assumption)
                                  have q182 : x8_2 < (l0.length : Int) := of_decide_eq_true (by first | (with_reducible assumption) | assumption)
                                  obtain ⟨ad182, A182_3, c182_3, e182, hx182_0, hx182_1, hx182_2, hx182_3, hl182_3, hi182_3⟩ := at_T35 HR0.out x8_2 p182 q182
                                  cases e182
                                  replace hx182_0 := (HB.out.cell (World.block_lt_of_cell? w _ hx182_0)).trans hx182_0
                                  replace hx182_1 := (HB.out.cell (World.block_lt_of_cell? w _ hx182_1)).trans hx182_1
                                  replace hx182_2 := (HB.out.cell (World.block_lt_of_cell? w _ hx182_2)).trans hx182_2
                                  replace hx182_3 := (HB.out.cell (World.block_lt_of_cell? w _ hx182_3)).trans hx182_3
                                  have HR182_3 := Aside0.mk hi182_3
                                  have HC182_3 := Aside0.mk hl182_3
                                  clear hi182_3 hl182_3
                                  replace p182 := eq_true p182
                                  replace q182 := eq_true q182
                                  have p183 : 0 ≤ (x8_2 : Int) := of_decide_eq_true (by first | (with_reducible assumption) | assumption)
                                  have q183 : x8_2 < (l0.length : Int) := of_decide_eq_true (by first | (with_reducible assumption) | assumption)
                                  obtain ⟨ad183, A183_3, c183_3, e183, hx183_0, hx183_1, hx183_2, hx183_3, hl183_3, hi183_3⟩ := at_T35 HR0.out x8_2 p183 q183
                                  obtain rfl : ad182 = ad183 := (by injection e183)
                                  replace hx183_0 := (HB.out.cell (World.block_lt_of_cell? w _ hx183_0)).trans hx183_0
                                  replace hx183_1 := (HB.out.cell (World.block_lt_of_cell? w _ hx183_1)).trans hx183_1
                                  replace hx183_2 := (HB.out.cell (World.block_lt_of_cell? w _ hx183_2)).trans hx183_2
                                  replace hx183_3 := (HB.out.cell (World.block_lt_of_cell? w _ hx183_3)).trans hx183_3
                                  have HR183_3 := Aside0.mk hi183_3
                                  have HC183_3 := Aside0.mk hl183_3
                                  clear hi183_3 hl183_3
                                  replace p183 := eq_true p183
                                  replace q183 := eq_true q183
                                  have ea_ := Option.some.inj (hx182_3.symm.trans hx183_3)
                                  injection ea_ with ea_ en_ ec_
                                  subst ea_
                                  subst ec_
                                  clear en_
                                  go_wp2
                                  go_meet
                                  case rel => exact ⟨_, (true), _, (by first | rfl | (simp; done) | (simp [*]; done)), H', ⟨by have := HK1.out; have := HK2.out; first | omega | exact Nat.le_refl _⟩, ⟨by (with_reducible repeat (first | apply Kd.R_alloc | apply Kd.R_drewN | apply Kd.R_drew)); exact Kd.R_mono HO_5.out (fun _ hk => trivial)⟩, ⟨by repeat (first | (with_reducible exact HR174.out) | (with_reducible refine Kd.C_alloc ?_ _) | (with_reducible refine Kd.C_drewN ?_ _) | (with_reducible refine Kd.C_drew ?_) | exact HR174.out)⟩, ⟨by repeat (first | (with_reducible first | exact HB.out | apply below_alloc | apply pw_below_drewN | apply below_drew1) | exact HB.out)⟩⟩
                              · rw [if_neg c42] at H
                                have c42b0 : (t178 == ((rd_T35 l0 x8_2).f0)) = false := beq_eq_false_iff_ne.mpr c42
                                have c42b1 : (t178 != ((rd_T35 l0 x8_2).f0)) = true := bne_iff_ne.mpr c42
                                have H' := Aside0.mk H
                                clear H
                                have p182 : 0 ≤ (x8_2 : Int) := of_decide_eq_true (by first | (with_reducible assumption) | assumption)
                                have q182 : x8_2 < (l0.length : Int) := of_decide_eq_true (by first | (with_reducible assumption) | assumption)
                                obtain ⟨ad182, A182_3, c182_3, e182, hx182_0, hx182_1, hx182_2, hx182_3, hl182_3, hi182_3⟩ := at_T35 HR0.out x8_2 p182 q182
                                cases e182
                                replace hx182_0 := (HB.out.cell (World.block_lt_of_cell? w _ hx182_0)).trans hx182_0
                                replace hx182_1 := (HB.out.cell (World.block_lt_of_cell? w _ hx182_1)).trans hx182_1
                                replace hx182_2 := (HB.out.cell (World.block_lt_of_cell? w _ hx182_2)).trans hx182_2
                                replace hx182_3 := (HB.out.cell (World.block_lt_of_cell? w _ hx182_3)).trans hx182_3
                                have HR182_3 := Aside0.mk hi182_3
                                have HC182_3 := Aside0.mk hl182_3
                                clear hi182_3 hl182_3
                                replace p182 := eq_true p182
                                replace q182 := eq_true q182
                                go_wp2
                                go_meet
                                case rel => exact ⟨_, (true), _, (by first | rfl | (simp; done) | (simp [*]; done)), H', ⟨by have := HK1.out; have := HK2.out; first | omega | exact Nat.le_refl _⟩, ⟨by (with_reducible repeat (first | apply Kd.R_alloc | apply Kd.R_drewN | apply Kd.R_drew)); exact Kd.R_mono HO_5.out (fun _ hk => trivial)⟩, ⟨by repeat (first | (with_reducible exact HR174.out) | (with_reducible refine Kd.C_alloc ?_ _) | (with_reducible refine Kd.C_drewN ?_ _) | (with_reducible refine Kd.C_drew ?_) | exact HR174.out)⟩, ⟨by repeat (first | (with_reducible first | exact HB.out | apply below_alloc | apply pw_below_drewN | apply below_drew1) | exact HB.out)⟩⟩
                            · rw [if_neg c41] at H
                              exact absurd H (by simp)
                          · rw [if_neg c40] at H
                            have c40b0 : (t181 == 0) = false := beq_eq_false_iff_ne.mpr c40
                            have c40b1 : (t181 != 0) = true := bne_iff_ne.mpr c40
                            (first | rw [c40b0] | (simp only [i64_w, i32_w]; rw [c40b0]) | skip)
                            have H' := Aside0.mk H
                            clear H
                            go_wp2
                            go_meet
                            case rel => exact ⟨_, (true), _, (by first | rfl | (simp; done) | (simp [*]; done)), H', ⟨by have := HK1.out; have := HK2.out; first | omega | exact Nat.le_refl _⟩, ⟨by (with_reducible repeat (first | apply Kd.R_alloc | apply Kd.R_drewN | apply Kd.R_drew)); exact Kd.R_mono HO_5.out (fun _ hk => trivial)⟩, ⟨by repeat (first | (with_reducible exact HR174.out) | (with_reducible refine Kd.C_alloc ?_ _) | (with_reducible refine Kd.C_drewN ?_ _) | (with_reducible refine Kd.C_drew ?_) | exact HR174.out)⟩, ⟨by repeat (first | (with_reducible first | exact HB.out | apply below_alloc | apply pw_below_drewN | apply below_drew1) | exact HB.out)⟩⟩
                        case rest =>
                          clear HC32
                          try clear c1
                          try clear p1
                          try clear q1
                          try clear hx1
                          try clear c2
                          try clear p2
                          try clear c3
                          try clear q3
                          try clear c4
                          try clear c5
                          try clear c5b0
                          try clear c5b1
                          try clear p6
                          try clear c10
                          try clear c10b0
                          try clear c12
                          try clear c12b0
                          try clear c14
                          try clear c15
                          try clear p15
                          try clear q15
                          try clear hx15
                          try clear c16
                          try clear p16
                          try clear q16
                          try clear hx16
                          try clear c17
                          try clear c18
                          try clear p18
                          try clear q18
                          try clear hx18
                          try clear c20
                          try clear c20b0
                          try clear c21
                          try clear c21b0
                          try clear c23
                          try clear c27
                          try clear c27b0
                          try clear c28
                          try clear c28b0
                          try clear c28b1
                          try clear c29
                          try clear c29b0
                          try clear c29b1
                          try clear c30
                          try clear c35
                          try clear q35
                          try clear c40
                          try clear c40b0
                          try clear c40b1
                          try clear c41
                          try clear c41b0
                          try clear c42
                          try clear c42b0
                          try clear c42b1
                          try clear c43
                          try clear c43b0
                          try clear c43b1
                          try clear hx156_0
                          try clear hx156_1
                          try clear hx156_2
                          try clear hx156_3
                          try clear hx158_0
                          try clear hx158_1
                          try clear hx158_2
                          try clear hx158_3
                          try clear hx160_0
                          try clear hx160_1
                          try clear hx160_2
                          try clear hx160_3
                          try clear hx182_0
                          try clear hx182_1
                          try clear hx182_2
                          try clear hx182_3
                          try clear hx183_0
                          try clear hx183_1
                          try clear hx183_2
                          try clear hx183_3
                          try clear hx184_0
                          try clear hx184_1
                          try clear hx184_2
                          try clear hx184_3
                          try clear p1
                          try clear p15
                          try clear p156
                          try clear p158
                          try clear p16
                          try clear p160
                          try clear p182
                          try clear p183
                          try clear p184
                          try clear p2
                          try clear p6
                          try clear q035
                          try clear q1
                          try clear q15
                          try clear q156
                          try clear q158
                          try clear q16
                          try clear q160
                          try clear q182
                          try clear q183
                          try clear q184
                          try clear q35
                          obtain ⟨kq, x99_31, A174, rfl, HA, HJ31, HO_5, HR174, HB⟩ := hcut
                          cases kq with
                          | zero => exact absurd HA.out (by simp [laws_FnProtoMessage.j3])
                          | succ kj31 =>
                            have H := HA.out
                            clear HA
                            simp only [laws_FnProtoMessage.j3] at H
                            by_cases c47 : x99_31 = true
                            · subst c47
                              have H1 : (some false) = some r := by rw [if_pos rfl] at H; exact H
                              clear H
                              have H := H1
                              clear H1
                              obtain rfl := Option.some.inj H
                              go_wp2
                              go_ret
                              exact ⟨by first | rfl | (simp [errW_none, errW_some] <;> rfl) | (simp [*, errW_none, errW_some] <;> rfl) | (simp [errW_none, errW_some]; generalize ByteArray.toList _ = l_; cases l_ <;> rfl), by repeat (first | (with_reducible first | exact HB.out | apply below_alloc | apply pw_below_drewN | apply below_drew1) | exact HB.out)⟩
                            · replace c47 := Bool.eq_false_iff.mpr c47
                              subst c47
                              have H1 : (if a1 > 0 then (if a1 < t180 then (laws_FnProtoMessage.j4 kj31 l0 a1 x5_1 x6_2 x8_2 t180 (x8_2 == (wrap64 ((l0.length : Int) - 1)))) else (laws_FnProtoMessage.j4 kj31 l0 a1 x5_1 x6_2 x8_2 t180 false)) else (laws_FnProtoMessage.j4 kj31 l0 a1 x5_1 x6_2 x8_2 t180 false)) = some r := by rw [if_neg (show ¬ (false = true) by decide)] at H; exact H
                              clear H
                              have H := H1
                              clear H1
                              have HC48 := Aside0.mk H
                              clear H
                              go_upto_region 19 with (fail)
                              go_cut [113] (fun v113 wc => ∃ (kq : Nat) (x113_47 : Bool) (A174 : Option Addr), v113 = .bool x113_47 ∧ Aside0 (laws_FnProtoMessage.j4 kq l0 a1 x5_1 x6_2 x8_2 t180 x113_47 = some r) ∧ Aside0 (kq ≤ kj31) ∧ Aside0 (Kd.R (Kd.int .u8) 5 wc w.heap.size (fun _ => True) (.slice Ao36 x5_1.length co36) x5_1) ∧ Aside0 (Kd.C (Kd.int .u8) wc A174 y171.length y171) ∧ Aside0 (Below w.heap.size w wc))
                              case first =>
                                have H := HC48.out
                                clear HC48
                                by_cases c49 : a1 > 0
                                · rw [if_pos c49] at H
                                  have c49b0 : decide (0 < a1) = true := decide_eq_true c49
                                  clear c49
                                  (first | rw [c49b0] | (simp only [i64_w, i32_w]; rw [c49b0]) | skip)
                                  by_cases c50 : a1 < t180
                                  · rw [if_pos c50] at H
                                    have c50b0 : decide (a1 < t180) = true := decide_eq_true c50
                                    clear c50
                                    have H' := Aside0.mk H
                                    clear H
                                    go_wp2
                                    go_meet
                                    case rel => exact ⟨_, ((x8_2 == (wrap64 ((l0.length : Int) - 1)))), _, (by first | rfl | (simp; done) | (simp [*]; done)), H', ⟨by have := HK1.out; have := HK2.out; have := HJ31.out; first | omega | exact Nat.le_refl _⟩, ⟨by (with_reducible repeat (first | apply Kd.R_alloc | apply Kd.R_drewN | apply Kd.R_drew)); exact HO_5.out⟩, ⟨by repeat (first | (with_reducible exact HR174.out) | (with_reducible refine Kd.C_alloc ?_ _) | (with_reducible refine Kd.C_drewN ?_ _) | (with_reducible refine Kd.C_drew ?_) | exact HR174.out)⟩, ⟨by repeat (first | (with_reducible first | exact HB.out | apply below_alloc | apply pw_below_drewN | apply below_drew1) | exact HB.out)⟩⟩
                                  · rw [if_neg c50] at H
                                    have c50b0 : decide (a1 < t180) = false := decide_eq_false c50
                                    clear c50
                                    have H' := Aside0.mk H
                                    clear H
                                    go_wp2
                                    go_meet
                                    case rel => exact ⟨_, (false), _, (by first | rfl | (simp; done) | (simp [*]; done)), H', ⟨by have := HK1.out; have := HK2.out; have := HJ31.out; first | omega | exact Nat.le_refl _⟩, ⟨by (with_reducible repeat (first | apply Kd.R_alloc | apply Kd.R_drewN | apply Kd.R_drew)); exact HO_5.out⟩, ⟨by repeat (first | (with_reducible exact HR174.out) | (with_reducible refine Kd.C_alloc ?_ _) | (with_reducible refine Kd.C_drewN ?_ _) | (with_reducible refine Kd.C_drew ?_) | exact HR174.out)⟩, ⟨by repeat (first | (with_reducible first | exact HB.out | apply below_alloc | apply pw_below_drewN | apply below_drew1) | exact HB.out)⟩⟩
                                · rw [if_neg c49] at H
                                  have c49b0 : decide (0 < a1) = false := decide_eq_false c49
                                  clear c49
                                  (first | rw [c49b0] | (simp only [i64_w, i32_w]; rw [c49b0]) | skip)
                                  have H' := Aside0.mk H
                                  clear H
                                  go_wp2
                                  go_meet
                                  case rel => exact ⟨_, (false), _, (by first | rfl | (simp; done) | (simp [*]; done)), H', ⟨by have := HK1.out; have := HK2.out; have := HJ31.out; first | omega | exact Nat.le_refl _⟩, ⟨by (with_reducible repeat (first | apply Kd.R_alloc | apply Kd.R_drewN | apply Kd.R_drew)); exact HO_5.out⟩, ⟨by repeat (first | (with_reducible exact HR174.out) | (with_reducible refine Kd.C_alloc ?_ _) | (with_reducible refine Kd.C_drewN ?_ _) | (with_reducible refine Kd.C_drew ?_) | exact HR174.out)⟩, ⟨by repeat (first | (with_reducible first | exact HB.out | apply below_alloc | apply pw_below_drewN | apply below_drew1) | exact HB.out)⟩⟩
                              case rest =>
                                clear HC48
                                try clear c1
                                try clear p1
                                try clear q1
                                try clear hx1
                                try clear c2
                                try clear p2
                                try clear c3
                                try clear q3
                                try clear c4
                                try clear c5
                                try clear c5b0
                                try clear c5b1
                                try clear p6
                                try clear c10
                                try clear c10b0
                                try clear c12
                                try clear c12b0
                                try clear c14
                                try clear c15
                                try clear p15
                                try clear q15
                                try clear hx15
                                try clear c16
                                try clear p16
                                try clear q16
                                try clear hx16
                                try clear c17
                                try clear c18
                                try clear p18
                                try clear q18
                                try clear hx18
                                try clear c20
                                try clear c20b0
                                try clear c21
                                try clear c21b0
                                try clear c23
                                try clear c27
                                try clear c27b0
                                try clear c28
                                try clear c28b0
                                try clear c28b1
                                try clear c29
                                try clear c29b0
                                try clear c29b1
                                try clear c30
                                try clear c35
                                try clear q35
                                try clear c40
                                try clear c40b0
                                try clear c40b1
                                try clear c41
                                try clear c41b0
                                try clear c42
                                try clear c42b0
                                try clear c42b1
                                try clear c43
                                try clear c43b0
                                try clear c43b1
                                try clear c47
                                try clear c49
                                try clear c49b0
                                try clear c50
                                try clear c50b0
                                try clear hx156_0
                                try clear hx156_1
                                try clear hx156_2
                                try clear hx156_3
                                try clear hx158_0
                                try clear hx158_1
                                try clear hx158_2
                                try clear hx158_3
                                try clear hx160_0
                                try clear hx160_1
                                try clear hx160_2
                                try clear hx160_3
                                try clear hx182_0
                                try clear hx182_1
                                try clear hx182_2
                                try clear hx182_3
                                try clear hx183_0
                                try clear hx183_1
                                try clear hx183_2
                                try clear hx183_3
                                try clear hx184_0
                                try clear hx184_1
                                try clear hx184_2
                                try clear hx184_3
                                try clear p1
                                try clear p15
                                try clear p156
                                try clear p158
                                try clear p16
                                try clear p160
                                try clear p18
                                try clear p182
                                try clear p183
                                try clear p184
                                try clear p2
                                try clear p6
                                try clear q035
                                try clear q1
                                try clear q15
                                try clear q156
                                try clear q158
                                try clear q16
                                try clear q160
                                try clear q18
                                try clear q182
                                try clear q183
                                try clear q184
                                try clear q3
                                try clear q35
                                obtain ⟨kq, x113_47, A174, rfl, HA, HJ47, HO_5, HR174, HB⟩ := hcut
                                cases kq with
                                | zero => exact absurd HA.out (by simp [laws_FnProtoMessage.j4])
                                | succ kj47 =>
                                  have H := HA.out
                                  clear HA
                                  simp only [laws_FnProtoMessage.j4] at H
                                  by_cases c51 : x113_47 = true
                                  · subst c51
                                    have H1 : ((some (([] : List Int) : List Int)).bind fun y188 => (if 0 ≤ x6_2 then (if x6_2 ≤ (wrap64 ((x5_1.length : Int) - a1)) then (if (wrap64 ((x5_1.length : Int) - a1)) ≤ (x5_1.length : Int) then ((some ((x5_1.take ((wrap64 ((x5_1.length : Int) - a1)) : Int).toNat).drop (x6_2 : Int).toNat : List Int)).bind fun y191 => (if y188.length + y191.length < 140737488355328 then ((impl_ProtoField.f (y188 ++ y191)).bind fun bt198 => (if bt198.2.2.2 = 0 then (some false) else (laws_FnProtoMessage.l1 kj47 l0 a1 x5_1 (wrap64 (x6_2 + t180)) (wrap64 (x8_2 + 1))))) else (none))) else (none)) else (none)) else (none))) = some r := by rw [if_pos rfl] at H; exact H
                                    clear H
                                    have H := H1
                                    clear H1
                                    obtain ⟨y188, hy188⟩ : ∃ y_ : List Int, y_ = (([] : List Int)) := ⟨_, rfl⟩
                                    replace H : (if 0 ≤ x6_2 then (if x6_2 ≤ (wrap64 ((x5_1.length : Int) - a1)) then (if (wrap64 ((x5_1.length : Int) - a1)) ≤ (x5_1.length : Int) then ((some ((x5_1.take ((wrap64 ((x5_1.length : Int) - a1)) : Int).toNat).drop (x6_2 : Int).toNat : List Int)).bind fun y191 => (if y188.length + y191.length < 140737488355328 then ((impl_ProtoField.f (y188 ++ y191)).bind fun bt198 => (if bt198.2.2.2 = 0 then (some false) else (laws_FnProtoMessage.l1 kj47 l0 a1 x5_1 (wrap64 (x6_2 + t180)) (wrap64 (x8_2 + 1))))) else (none))) else (none)) else (none)) else (none)) = some r := by first | (rw [hy188]; with_reducible exact H) | (have H2_ := (Option.bind_some _ _).symm.trans H; rw [hy188]; with_reducible exact H2_) | (have H2_ := (Option.bind_some _ _).symm.trans H; with_reducible exact H2_) | with_reducible exact H | (rw [hy188]; exact H) | exact H
                                    have Ny188 := Aside0.mk hy188
                                    clear hy188
                                    by_cases c52 : 0 ≤ x6_2
                                    · rw [if_pos c52] at H
                                      have c52b0 := eq_true c52
                                      have c52b1 : decide (0 ≤ x6_2) = true := decide_eq_true c52
                                      clear c52
                                      by_cases c53 : x6_2 ≤ (wrap64 ((x5_1.length : Int) - a1))
                                      · rw [if_pos c53] at H
                                        have c53b0 := eq_true c53
                                        have c53b1 : decide (x6_2 ≤ (wrap64 ((x5_1.length : Int) - a1))) = true := decide_eq_true c53
                                        clear c53
                                        by_cases c54 : (wrap64 ((x5_1.length : Int) - a1)) ≤ (x5_1.length : Int)
                                        · rw [if_pos c54] at H
                                          have c54b0 := eq_true c54
                                          have c54b1 : decide ((wrap64 ((x5_1.length : Int) - a1)) ≤ (x5_1.length : Int)) = true := decide_eq_true c54
                                          clear c54
                                          obtain ⟨y191, hy191⟩ : ∃ y_ : List Int, y_ = ((x5_1.take ((wrap64 ((x5_1.length : Int) - a1)) : Int).toNat).drop (x6_2 : Int).toNat) := ⟨_, rfl⟩
                                          replace H : (if y188.length + y191.length < 140737488355328 then ((impl_ProtoField.f (y188 ++ y191)).bind fun bt198 => (if bt198.2.2.2 = 0 then (some false) else (laws_FnProtoMessage.l1 kj47 l0 a1 x5_1 (wrap64 (x6_2 + t180)) (wrap64 (x8_2 + 1))))) else (none)) = some r := by first | (rw [hy191]; with_reducible exact H) | (have H2_ := (Option.bind_some _ _).symm.trans H; rw [hy191]; with_reducible exact H2_) | (have H2_ := (Option.bind_some _ _).symm.trans H; with_reducible exact H2_) | with_reducible exact H | (rw [hy191]; exact H) | exact H
                                          have Ny191 := Aside0.mk hy191
                                          clear hy191
                                          by_cases c55 : y188.length + y191.length < 140737488355328
                                          · rw [if_pos c55] at H
                                            have LMc55 := Aside0.mk c55
                                            clear c55
                                            obtain ⟨y195, hy195⟩ : ∃ y_ : List Int, y_ = (y188 ++ y191) := ⟨_, rfl⟩
                                            replace H : ((impl_ProtoField.f y195).bind fun bt198 => (if bt198.2.2.2 = 0 then (some false) else (laws_FnProtoMessage.l1 kj47 l0 a1 x5_1 (wrap64 (x6_2 + t180)) (wrap64 (x8_2 + 1))))) = some r := by first | (rw [hy195]; with_reducible exact H) | (have H2_ := (Option.bind_some _ _).symm.trans H; rw [hy195]; with_reducible exact H2_) | (have H2_ := (Option.bind_some _ _).symm.trans H; with_reducible exact H2_) | with_reducible exact H | (rw [hy195]; exact H) | exact H
                                            have Ny195 := Aside0.mk hy195
                                            clear hy195
                                            replace H := Option.bind_eq_some_iff.mp H
                                            obtain ⟨⟨t198, t199, t200, t201⟩, A560, H⟩ := H
                                            replace H : (if t201 = 0 then (some false) else (laws_FnProtoMessage.l1 kj47 l0 a1 x5_1 (wrap64 (x6_2 + t180)) (wrap64 (x8_2 + 1)))) = some r := H
                                            have A56 := Aside0.mk A560
                                            clear A560
                                            by_cases c57 : t201 = 0
                                            · rw [if_pos c57] at H
                                              have c57b0 : (t201 == 0) = true := beq_iff_eq.mpr c57
                                              have c57b1 : (t201 != 0) = false := bne_eq_false_iff_eq.mpr c57
                                              clear c57
                                              obtain rfl := Option.some.inj H
                                              go_wp2_with (first | ((with_reducible refine gate_dst (N := 115) rfl ?_); (try (refine gate_guard (by rfl) ?_; dsimp only)); refine Kd.R_lit (Kd.int .u8) _ 5 ?hg (N := 115) ?hd (xs := ([] : List Int)) (inner := []) (ok := fun _ => True) (okp := fun _ => True) ?hr ?hp (fun _ hk => hk) trivial (Below.refl _ _) (Nat.le_refl _) (by simp) ?_; (case hd => rfl); (case hg => rfl); (case hr => first | (go_simp; done) | (go_simp; rfl)); (case hp => exact (Reps.none _ _)); intro v189 w58 ho59 hb hg_ hnew_; clear hg_ hnew_; (first | rw [← Ny188.out] at ho59 | (simp only [Int.reduceToNat] at ho59; rw [← Ny188.out] at ho59)); have n0_ := Aside0.mk (Kd.R_elder' (by (with_reducible repeat (first | apply Kd.R_alloc | apply Kd.R_drewN | apply Kd.R_drew)); exact HO_5.out) (Kd.R_base ho59) hb); have n1_ := Aside0.mk (Kd.R_lower (Kd.R_new' ho59 (Kd.R_lt (by (with_reducible repeat (first | apply Kd.R_alloc | apply Kd.R_drewN | apply Kd.R_drew)); exact HO_5.out))) (below_size (by repeat (first | (with_reducible first | exact HB.out | apply below_alloc | apply pw_below_drewN | apply below_drew1) | exact HB.out)))); have n2_ := Aside0.mk (Kd.C_below (by repeat (first | (with_reducible exact HR174.out) | (with_reducible refine Kd.C_alloc ?_ _) | (with_reducible refine Kd.C_drewN ?_ _) | (with_reducible refine Kd.C_drew ?_) | exact HR174.out)) hb); have n3_ := Aside0.mk (below_step (by repeat (first | (with_reducible first | exact HB.out | apply below_alloc | apply pw_below_drewN | apply below_drew1) | exact HB.out)) hb); clear HO_5; clear HR174; clear HB; have HO_5 := n0_; have HO190 := n1_; have HR174 := n2_; have HB := n3_; clear n0_ n1_ n2_ n3_; clear hb ho59; have q60 : ((wrap64 ((x5_1.length : Int) - a1)) : Int) ≤ ((x5_1.length : Int) : Int) := of_decide_eq_true (by first | (with_reducible assumption) | assumption); obtain ⟨i060, hi060, _, hsz60, _⟩ := info_parts info5; have hroom60 : x5_1.length ≤ co36 := (Kd.R_reads' HO_5.out).2.1; have hC60 : Kd.C (Kd.int .u8) _ Ao36 x5_1.length x5_1 := (Kd.R_reads' HO_5.out).2.2; have ql60 : (x6_2 : Int) ≤ ((wrap64 ((x5_1.length : Int) - a1)) : Int) := of_decide_eq_true (by first | (with_reducible assumption) | assumption); have q060 : (0 : Int) ≤ (x6_2 : Int) := of_decide_eq_true (by first | (with_reducible assumption) | assumption); have hcut60 := cut_mid (P := Tryd.prog) 22 5 .i64 .i64 Tryd.underlying22 hi060 1 hsz60 Ao36 x5_1.length co36 x6_2 (wrap64 ((x5_1.length : Int) - a1)) q060 ql60 q60 hroom60; have hr60 := Kd.C_mid (lo := (x6_2 : Int).toNat) (hi := ((wrap64 ((x5_1.length : Int) - a1)) : Int).toNat) (c := co36) hC60 (by omega) (by omega) hroom60; obtain ⟨A60, hA60⟩ : ∃ A1, A1 = (if co36 = (x6_2 : Int).toNat then Ao36 else (Ao36 : Option Addr).map (·.add ((x6_2 : Int).toNat * 1))) := ⟨_, rfl⟩; obtain ⟨c60, hc60⟩ : ∃ c1, c1 = co36 - (x6_2 : Int).toNat := ⟨_, rfl⟩; have hy60 : y191.length = ((wrap64 ((x5_1.length : Int) - a1)) : Int).toNat - (x6_2 : Int).toNat := (by rw [Ny191.out, List.length_drop, List.length_take] <;> omega); rw [show ((x5_1).take ((wrap64 ((x5_1.length : Int) - a1)) : Int).toNat).drop (x6_2 : Int).toNat = y191 from Ny191.out.symm] at hr60; replace hr60 : Kd.C (Kd.int .u8) _ A60 y191.length y191 := (by rw [hA60]; exact hr60); rw [← hy60, ← hA60, ← hc60] at hcut60; have HR194 := Aside0.mk hr60; have HC194 := Aside0.mk (show y191.length ≤ c60 from by rw [hy60, hc60]; exact Nat.sub_le_sub_right (Nat.le_trans (by omega) hroom60) _); clear hr60 hC60 hroom60 hi060 hsz60 hc60; have KY60 := Aside0.mk hy60; have KA60 := Aside0.mk hA60; clear hy60 hA60; have KL60 := Aside0.mk (show ((wrap64 ((x5_1.length : Int) - a1)) : Int).toNat ≤ x5_1.length from by omega); have KM60 := Aside0.mk (show (x6_2 : Int).toNat ≤ ((wrap64 ((x5_1.length : Int) - a1)) : Int).toNat from by omega); replace q60 := eq_true q60) | ((with_reducible refine gate_builtin (b := .append) (xs := #[.tmp 115, .tmp 122]) rfl ?_); (try (refine gate_guard (by rfl) ?_; dsimp only)); at_builtin; refine Kd.R_append_rows (Kd.int .u8) (w0 := w) w.heap.size rfl (.tmp 115) (.tmp 122) 22 5 (.int .u8 0) 1 rfl Tryd.underlying22 info5 rfl (by decide) (by omega) v189 y188 y191 _ _ _ (fun k_ => some k_ ≠ (.slice Ao36 x5_1.length co36 : Value).ownBlock) (fun _ => False) rfl rfl ?aO ?aR (fun _ _ h => h) (fun _ h => h.elim) ?aF ?aB ?aS ?aL ?_; (case aR => repeat (first | exact (by repeat (first | (with_reducible exact HR194.out) | (with_reducible refine Kd.C_alloc ?_ _) | (with_reducible refine Kd.C_drewN ?_ _) | (with_reducible refine Kd.C_drew ?_) | exact HR194.out)) | (with_reducible refine Kd.C_alloc ?_ _) | (with_reducible refine Kd.C_drewN ?_ _) | (with_reducible refine Kd.C_drew ?_))); (case aB => exact (by repeat (first | (with_reducible first | exact HB.out | apply below_alloc | apply pw_below_drewN | apply below_drew1) | exact HB.out))); (case aF => exact (fun k_ hk => Kd.fresh' (Kd.R_lt (by (with_reducible repeat (first | apply Kd.R_alloc | apply Kd.R_drewN | apply Kd.R_drew)); exact HO_5.out)) k_ hk)); (case aO => exact (by (with_reducible repeat (first | apply Kd.R_alloc | apply Kd.R_drewN | apply Kd.R_drew)); exact Kd.R_mono HO190.out (fun _ hk => hk.2))); (case aS => exact (below_size (by repeat (first | (with_reducible first | exact HB.out | apply below_alloc | apply pw_below_drewN | apply below_drew1) | exact HB.out)))); (case aL => have := LMc55.out; omega); intro v196 w61 ho hb hg hat; rw [← Ny195.out] at ho; have n0_ := Aside0.mk (Kd.R_after (ok := (fun _ => True)) (by (with_reducible repeat (first | apply Kd.R_alloc | apply Kd.R_drewN | apply Kd.R_drew)); exact HO_5.out) hg hat); have n1_ := Aside0.mk (hb); have n2_ := Aside0.mk ((show Kd.C (Kd.int .u8) w61 A35 y171.length y171 from by rw [Ny171.out, KA35.out]; exact Kd.C_drop (m := (x6_2 : Int).toNat) (c := co36) ((Kd.R_reads' (Kd.R_after (ok := (fun _ => True)) (by (with_reducible repeat (first | apply Kd.R_alloc | apply Kd.R_drewN | apply Kd.R_drew)); exact HO_5.out) hg hat)).2.2) KL35.out ((Kd.R_reads' (Kd.R_after (ok := (fun _ => True)) (by (with_reducible repeat (first | apply Kd.R_alloc | apply Kd.R_drewN | apply Kd.R_drew)); exact HO_5.out) hg hat)).2.1))); have n3_ := Aside0.mk ((show Kd.C (Kd.int .u8) w61 A60 y191.length y191 from by rw [Ny191.out, KA60.out]; exact Kd.C_mid (lo := (x6_2 : Int).toNat) (hi := ((wrap64 ((x5_1.length : Int) - a1)) : Int).toNat) (c := co36) ((Kd.R_reads' (Kd.R_after (ok := (fun _ => True)) (by (with_reducible repeat (first | apply Kd.R_alloc | apply Kd.R_drewN | apply Kd.R_drew)); exact HO_5.out) hg hat)).2.2) KM60.out KL60.out ((Kd.R_reads' (Kd.R_after (ok := (fun _ => True)) (by (with_reducible repeat (first | apply Kd.R_alloc | apply Kd.R_drewN | apply Kd.R_drew)); exact HO_5.out) hg hat)).2.1))); have n4_ := Aside0.mk (ho); clear HO_5; clear HB; clear HR174; clear HR194; clear HO190; have HO_5 := n0_; have HB := n1_; have HR174 := n2_; have HR194 := n3_; have HO197 := n4_; clear n0_ n1_ n2_ n3_ n4_; clear ho hb hg hat; obtain ⟨Ao62, co62, eo62⟩ := Kd.R_slice HO197.out; subst eo62) | ((with_reducible refine gate_callee (f := 17) rfl ?_); refine goesL_ (some 124) rfl rfl Tryd.func17 (by kernel_rfl) rfl #[.slice Ao62 y195.length co62] rfl (by (try simp only [List.map_toArray, List.map_cons, List.map_nil]); first | done | rfl | (simp only [List.length_drop, List.length_take]; rfl)) ?_; (with_reducible refine (impl_ProtoField.calls _ _ y195 t198 t199 t200 t201 _ ?side1 ?side2 A56.out (HE_.out.below (by repeat (first | (with_reducible first | exact HB.out | apply below_alloc | apply pw_below_drewN | apply below_drew1) | exact HB.out)))).mono ?_); (case side1 => repeat (first | exact (Kd.R_reads' HO197.out).2.2 | (with_reducible refine Kd.C_alloc ?_ _) | (with_reducible refine Kd.C_drewN ?_ _) | (with_reducible refine Kd.C_drew ?_))); (case side2 => exact (Kd.R_reads' HO197.out).2.1); rintro e w63 ⟨rfl, hb⟩; refine ⟨_, rfl, ?_⟩; have n0_ := Aside0.mk (Kd.R_below (by (with_reducible repeat (first | apply Kd.R_alloc | apply Kd.R_drewN | apply Kd.R_drew)); exact HO_5.out) hb); have n1_ := Aside0.mk (Kd.R_below (by (with_reducible repeat (first | apply Kd.R_alloc | apply Kd.R_drewN | apply Kd.R_drew)); exact HO197.out) hb); have n2_ := Aside0.mk (Kd.C_below (by repeat (first | (with_reducible exact HR174.out) | (with_reducible refine Kd.C_alloc ?_ _) | (with_reducible refine Kd.C_drewN ?_ _) | (with_reducible refine Kd.C_drew ?_) | exact HR174.out)) hb); have n3_ := Aside0.mk (Kd.C_below (by repeat (first | (with_reducible exact HR194.out) | (with_reducible refine Kd.C_alloc ?_ _) | (with_reducible refine Kd.C_drewN ?_ _) | (with_reducible refine Kd.C_drew ?_) | exact HR194.out)) hb); have n4_ := Aside0.mk (below_step (by repeat (first | (with_reducible first | exact HB.out | apply below_alloc | apply pw_below_drewN | apply below_drew1) | exact HB.out)) hb); clear HO_5; clear HO197; clear HR174; clear HR194; clear HB; have HO_5 := n0_; have HO197 := n1_; have HR174 := n2_; have HR194 := n3_; have HB := n4_; clear n0_ n1_ n2_ n3_ n4_; (try clear hb); (try clear hb2); (try clear hk); (try clear hi)))
                                              go_ret
                                              exact ⟨by first | rfl | (simp [errW_none, errW_some] <;> rfl) | (simp [*, errW_none, errW_some] <;> rfl) | (simp [errW_none, errW_some]; generalize ByteArray.toList _ = l_; cases l_ <;> rfl), by repeat (first | (with_reducible first | exact HB.out | apply below_alloc | apply pw_below_drewN | apply below_drew1) | exact HB.out)⟩
                                            · rw [if_neg c57] at H
                                              have c57b0 : (t201 == 0) = false := beq_eq_false_iff_ne.mpr c57
                                              have c57b1 : (t201 != 0) = true := bne_iff_ne.mpr c57
                                              have H' := Aside0.mk H
                                              clear H
                                              go_wp2_with (first | ((with_reducible refine gate_dst (N := 115) rfl ?_); (try (refine gate_guard (by rfl) ?_; dsimp only)); refine Kd.R_lit (Kd.int .u8) _ 5 ?hg (N := 115) ?hd (xs := ([] : List Int)) (inner := []) (ok := fun _ => True) (okp := fun _ => True) ?hr ?hp (fun _ hk => hk) trivial (Below.refl _ _) (Nat.le_refl _) (by simp) ?_; (case hd => rfl); (case hg => rfl); (case hr => first | (go_simp; done) | (go_simp; rfl)); (case hp => exact (Reps.none _ _)); intro v189 w64 ho65 hb hg_ hnew_; clear hg_ hnew_; (first | rw [← Ny188.out] at ho65 | (simp only [Int.reduceToNat] at ho65; rw [← Ny188.out] at ho65)); have n0_ := Aside0.mk (Kd.R_elder' (by (with_reducible repeat (first | apply Kd.R_alloc | apply Kd.R_drewN | apply Kd.R_drew)); exact HO_5.out) (Kd.R_base ho65) hb); have n1_ := Aside0.mk (Kd.R_lower (Kd.R_new' ho65 (Kd.R_lt (by (with_reducible repeat (first | apply Kd.R_alloc | apply Kd.R_drewN | apply Kd.R_drew)); exact HO_5.out))) (below_size (by repeat (first | (with_reducible first | exact HB.out | apply below_alloc | apply pw_below_drewN | apply below_drew1) | exact HB.out)))); have n2_ := Aside0.mk (Kd.C_below (by repeat (first | (with_reducible exact HR174.out) | (with_reducible refine Kd.C_alloc ?_ _) | (with_reducible refine Kd.C_drewN ?_ _) | (with_reducible refine Kd.C_drew ?_) | exact HR174.out)) hb); have n3_ := Aside0.mk (below_step (by repeat (first | (with_reducible first | exact HB.out | apply below_alloc | apply pw_below_drewN | apply below_drew1) | exact HB.out)) hb); clear HO_5; clear HR174; clear HB; have HO_5 := n0_; have HO190 := n1_; have HR174 := n2_; have HB := n3_; clear n0_ n1_ n2_ n3_; clear hb ho65; have q66 : ((wrap64 ((x5_1.length : Int) - a1)) : Int) ≤ ((x5_1.length : Int) : Int) := of_decide_eq_true (by first | (with_reducible assumption) | assumption); obtain ⟨i066, hi066, _, hsz66, _⟩ := info_parts info5; have hroom66 : x5_1.length ≤ co36 := (Kd.R_reads' HO_5.out).2.1; have hC66 : Kd.C (Kd.int .u8) _ Ao36 x5_1.length x5_1 := (Kd.R_reads' HO_5.out).2.2; have ql66 : (x6_2 : Int) ≤ ((wrap64 ((x5_1.length : Int) - a1)) : Int) := of_decide_eq_true (by first | (with_reducible assumption) | assumption); have q066 : (0 : Int) ≤ (x6_2 : Int) := of_decide_eq_true (by first | (with_reducible assumption) | assumption); have hcut66 := cut_mid (P := Tryd.prog) 22 5 .i64 .i64 Tryd.underlying22 hi066 1 hsz66 Ao36 x5_1.length co36 x6_2 (wrap64 ((x5_1.length : Int) - a1)) q066 ql66 q66 hroom66; have hr66 := Kd.C_mid (lo := (x6_2 : Int).toNat) (hi := ((wrap64 ((x5_1.length : Int) - a1)) : Int).toNat) (c := co36) hC66 (by omega) (by omega) hroom66; obtain ⟨A66, hA66⟩ : ∃ A1, A1 = (if co36 = (x6_2 : Int).toNat then Ao36 else (Ao36 : Option Addr).map (·.add ((x6_2 : Int).toNat * 1))) := ⟨_, rfl⟩; obtain ⟨c66, hc66⟩ : ∃ c1, c1 = co36 - (x6_2 : Int).toNat := ⟨_, rfl⟩; have hy66 : y191.length = ((wrap64 ((x5_1.length : Int) - a1)) : Int).toNat - (x6_2 : Int).toNat := (by rw [Ny191.out, List.length_drop, List.length_take] <;> omega); rw [show ((x5_1).take ((wrap64 ((x5_1.length : Int) - a1)) : Int).toNat).drop (x6_2 : Int).toNat = y191 from Ny191.out.symm] at hr66; replace hr66 : Kd.C (Kd.int .u8) _ A66 y191.length y191 := (by rw [hA66]; exact hr66); rw [← hy66, ← hA66, ← hc66] at hcut66; have HR194 := Aside0.mk hr66; have HC194 := Aside0.mk (show y191.length ≤ c66 from by rw [hy66, hc66]; exact Nat.sub_le_sub_right (Nat.le_trans (by omega) hroom66) _); clear hr66 hC66 hroom66 hi066 hsz66 hc66; have KY66 := Aside0.mk hy66; have KA66 := Aside0.mk hA66; clear hy66 hA66; have KL66 := Aside0.mk (show ((wrap64 ((x5_1.length : Int) - a1)) : Int).toNat ≤ x5_1.length from by omega); have KM66 := Aside0.mk (show (x6_2 : Int).toNat ≤ ((wrap64 ((x5_1.length : Int) - a1)) : Int).toNat from by omega); replace q66 := eq_true q66) | ((with_reducible refine gate_builtin (b := .append) (xs := #[.tmp 115, .tmp 122]) rfl ?_); (try (refine gate_guard (by rfl) ?_; dsimp only)); at_builtin; refine Kd.R_append_rows (Kd.int .u8) (w0 := w) w.heap.size rfl (.tmp 115) (.tmp 122) 22 5 (.int .u8 0) 1 rfl Tryd.underlying22 info5 rfl (by decide) (by omega) v189 y188 y191 _ _ _ (fun k_ => some k_ ≠ (.slice Ao36 x5_1.length co36 : Value).ownBlock) (fun _ => False) rfl rfl ?aO ?aR (fun _ _ h => h) (fun _ h => h.elim) ?aF ?aB ?aS ?aL ?_; (case aR => repeat (first | exact (by repeat (first | (with_reducible exact HR194.out) | (with_reducible refine Kd.C_alloc ?_ _) | (with_reducible refine Kd.C_drewN ?_ _) | (with_reducible refine Kd.C_drew ?_) | exact HR194.out)) | (with_reducible refine Kd.C_alloc ?_ _) | (with_reducible refine Kd.C_drewN ?_ _) | (with_reducible refine Kd.C_drew ?_))); (case aB => exact (by repeat (first | (with_reducible first | exact HB.out | apply below_alloc | apply pw_below_drewN | apply below_drew1) | exact HB.out))); (case aF => exact (fun k_ hk => Kd.fresh' (Kd.R_lt (by (with_reducible repeat (first | apply Kd.R_alloc | apply Kd.R_drewN | apply Kd.R_drew)); exact HO_5.out)) k_ hk)); (case aO => exact (by (with_reducible repeat (first | apply Kd.R_alloc | apply Kd.R_drewN | apply Kd.R_drew)); exact Kd.R_mono HO190.out (fun _ hk => hk.2))); (case aS => exact (below_size (by repeat (first | (with_reducible first | exact HB.out | apply below_alloc | apply pw_below_drewN | apply below_drew1) | exact HB.out)))); (case aL => have := LMc55.out; omega); intro v196 w67 ho hb hg hat; rw [← Ny195.out] at ho; have n0_ := Aside0.mk (Kd.R_after (ok := (fun _ => True)) (by (with_reducible repeat (first | apply Kd.R_alloc | apply Kd.R_drewN | apply Kd.R_drew)); exact HO_5.out) hg hat); have n1_ := Aside0.mk (hb); have n2_ := Aside0.mk ((show Kd.C (Kd.int .u8) w67 A35 y171.length y171 from by rw [Ny171.out, KA35.out]; exact Kd.C_drop (m := (x6_2 : Int).toNat) (c := co36) ((Kd.R_reads' (Kd.R_after (ok := (fun _ => True)) (by (with_reducible repeat (first | apply Kd.R_alloc | apply Kd.R_drewN | apply Kd.R_drew)); exact HO_5.out) hg hat)).2.2) KL35.out ((Kd.R_reads' (Kd.R_after (ok := (fun _ => True)) (by (with_reducible repeat (first | apply Kd.R_alloc | apply Kd.R_drewN | apply Kd.R_drew)); exact HO_5.out) hg hat)).2.1))); have n3_ := Aside0.mk ((show Kd.C (Kd.int .u8) w67 A66 y191.length y191 from by rw [Ny191.out, KA66.out]; exact Kd.C_mid (lo := (x6_2 : Int).toNat) (hi := ((wrap64 ((x5_1.length : Int) - a1)) : Int).toNat) (c := co36) ((Kd.R_reads' (Kd.R_after (ok := (fun _ => True)) (by (with_reducible repeat (first | apply Kd.R_alloc | apply Kd.R_drewN | apply Kd.R_drew)); exact HO_5.out) hg hat)).2.2) KM66.out KL66.out ((Kd.R_reads' (Kd.R_after (ok := (fun _ => True)) (by (with_reducible repeat (first | apply Kd.R_alloc | apply Kd.R_drewN | apply Kd.R_drew)); exact HO_5.out) hg hat)).2.1))); have n4_ := Aside0.mk (ho); clear HO_5; clear HB; clear HR174; clear HR194; clear HO190; have HO_5 := n0_; have HB := n1_; have HR174 := n2_; have HR194 := n3_; have HO197 := n4_; clear n0_ n1_ n2_ n3_ n4_; clear ho hb hg hat; obtain ⟨Ao68, co68, eo68⟩ := Kd.R_slice HO197.out; subst eo68) | ((with_reducible refine gate_callee (f := 17) rfl ?_); refine goesL_ (some 124) rfl rfl Tryd.func17 (by kernel_rfl) rfl #[.slice Ao68 y195.length co68] rfl (by (try simp only [List.map_toArray, List.map_cons, List.map_nil]); first | done | rfl | (simp only [List.length_drop, List.length_take]; rfl)) ?_; (with_reducible refine (impl_ProtoField.calls _ _ y195 t198 t199 t200 t201 _ ?side1 ?side2 A56.out (HE_.out.below (by repeat (first | (with_reducible first | exact HB.out | apply below_alloc | apply pw_below_drewN | apply below_drew1) | exact HB.out)))).mono ?_); (case side1 => repeat (first | exact (Kd.R_reads' HO197.out).2.2 | (with_reducible refine Kd.C_alloc ?_ _) | (with_reducible refine Kd.C_drewN ?_ _) | (with_reducible refine Kd.C_drew ?_))); (case side2 => exact (Kd.R_reads' HO197.out).2.1); rintro e w69 ⟨rfl, hb⟩; refine ⟨_, rfl, ?_⟩; have n0_ := Aside0.mk (Kd.R_below (by (with_reducible repeat (first | apply Kd.R_alloc | apply Kd.R_drewN | apply Kd.R_drew)); exact HO_5.out) hb); have n1_ := Aside0.mk (Kd.R_below (by (with_reducible repeat (first | apply Kd.R_alloc | apply Kd.R_drewN | apply Kd.R_drew)); exact HO197.out) hb); have n2_ := Aside0.mk (Kd.C_below (by repeat (first | (with_reducible exact HR174.out) | (with_reducible refine Kd.C_alloc ?_ _) | (with_reducible refine Kd.C_drewN ?_ _) | (with_reducible refine Kd.C_drew ?_) | exact HR174.out)) hb); have n3_ := Aside0.mk (Kd.C_below (by repeat (first | (with_reducible exact HR194.out) | (with_reducible refine Kd.C_alloc ?_ _) | (with_reducible refine Kd.C_drewN ?_ _) | (with_reducible refine Kd.C_drew ?_) | exact HR194.out)) hb); have n4_ := Aside0.mk (below_step (by repeat (first | (with_reducible first | exact HB.out | apply below_alloc | apply pw_below_drewN | apply below_drew1) | exact HB.out)) hb); clear HO_5; clear HO197; clear HR174; clear HR194; clear HB; have HO_5 := n0_; have HO197 := n1_; have HR174 := n2_; have HR194 := n3_; have HB := n4_; clear n0_ n1_ n2_ n3_ n4_; (try clear hb); (try clear hb2); (try clear hk); (try clear hi)))
                                              go_roundg kj47
                                              case measure => have := HK1.out; have := HK2.out; have := HJ31.out; have := HJ47.out; omega
                                              case rel => exact ⟨(wrap64 (x6_2 + t180)), (wrap64 (x8_2 + 1)), (by first | rfl | (simp; done) | (simp [*]; done)), (by first | rfl | (simp; done) | (simp [*]; done)), H', ⟨by have := HK1.out; have := HK2.out; have := HJ31.out; have := HJ47.out; omega⟩, ⟨by (with_reducible repeat (first | apply Kd.R_alloc | apply Kd.R_drewN | apply Kd.R_drew)); exact Kd.R_mono HO_5.out (fun _ hk => trivial)⟩, ⟨by repeat (first | (with_reducible first | exact HB.out | apply below_alloc | apply pw_below_drewN | apply below_drew1) | exact HB.out)⟩⟩
                                          · rw [if_neg c55] at H
                                            exact absurd H (by simp)
                                        · rw [if_neg c54] at H
                                          exact absurd H (by simp)
                                      · rw [if_neg c53] at H
                                        exact absurd H (by simp)
                                    · rw [if_neg c52] at H
                                      exact absurd H (by simp)
                                  · replace c51 := Bool.eq_false_iff.mpr c51
                                    subst c51
                                    have H1 : (laws_FnProtoMessage.l1 kj47 l0 a1 x5_1 (wrap64 (x6_2 + t180)) (wrap64 (x8_2 + 1))) = some r := by rw [if_neg (show ¬ (false = true) by decide)] at H; exact H
                                    clear H
                                    have H := H1
                                    clear H1
                                    have H' := Aside0.mk H
                                    clear H
                                    go_wp2
                                    go_roundg kj47
                                    case measure => have := HK1.out; have := HK2.out; have := HJ31.out; have := HJ47.out; omega
                                    case rel => exact ⟨(wrap64 (x6_2 + t180)), (wrap64 (x8_2 + 1)), (by first | rfl | (simp; done) | (simp [*]; done)), (by first | rfl | (simp; done) | (simp [*]; done)), H', ⟨by have := HK1.out; have := HK2.out; have := HJ31.out; have := HJ47.out; omega⟩, ⟨by (with_reducible repeat (first | apply Kd.R_alloc | apply Kd.R_drewN | apply Kd.R_drew)); exact HO_5.out⟩, ⟨by repeat (first | (with_reducible first | exact HB.out | apply below_alloc | apply pw_below_drewN | apply below_drew1) | exact HB.out)⟩⟩
                      · rw [if_neg c30] at H
                        exact absurd H (by simp)
                    · rw [if_neg c29] at H
                      exact absurd H (by simp)
                  · rw [if_neg c28] at H
                    exact absurd H (by simp)
                · rw [if_neg c27] at H
                  have c27b0 : decide (x8_2 < (l0.length : Int)) = false := decide_eq_false c27
                  clear c27
                  by_cases c70 : x6_2 = (x5_1.length : Int)
                  · rw [if_pos c70] at H
                    have c70b0 : (x6_2 == (x5_1.length : Int)) = true := beq_iff_eq.mpr c70
                    have c70b1 : (x6_2 != (x5_1.length : Int)) = false := bne_eq_false_iff_eq.mpr c70
                    clear c70
                    replace H := Option.bind_eq_some_iff.mp H
                    obtain ⟨t167, A710, H⟩ := H
                    replace H : (some t167) = some r := H
                    have A71 := Aside0.mk A710
                    clear A710
                    obtain rfl := Option.some.inj H
                    obtain ⟨Ao72, co72, eo72⟩ := Kd.R_slice HO_5.out
                    subst eo72
                    go_wp2_with (first | (go_at_call 10; (with_reducible refine (laws_awakeProto.calls  t167 _ A71.out).mono ?_); rintro e w73 ⟨rfl, hb⟩; have n0_ := Aside0.mk (Kd.R_below (by (with_reducible repeat (first | apply Kd.R_alloc | apply Kd.R_drewN | apply Kd.R_drew)); exact HO_5.out) hb); have n1_ := Aside0.mk (below_step (by repeat (first | (with_reducible first | exact HB.out | apply below_alloc | apply pw_below_drewN | apply below_drew1) | exact HB.out)) hb); clear HO_5; clear HB; have HO_5 := n0_; have HB := n1_; clear n0_ n1_; (try clear hb); (try clear hb2); (try clear hk); (try clear hi)))
                    go_ret
                    exact ⟨by first | rfl | (simp [errW_none, errW_some] <;> rfl) | (simp [*, errW_none, errW_some] <;> rfl) | (simp [errW_none, errW_some]; generalize ByteArray.toList _ = l_; cases l_ <;> rfl), by repeat (first | (with_reducible first | exact HB.out | apply below_alloc | apply pw_below_drewN | apply below_drew1) | exact HB.out)⟩
                  · rw [if_neg c70] at H
                    have c70b0 : (x6_2 == (x5_1.length : Int)) = false := beq_eq_false_iff_ne.mpr c70
                    have c70b1 : (x6_2 != (x5_1.length : Int)) = true := bne_iff_ne.mpr c70
                    obtain rfl := Option.some.inj H
                    obtain ⟨Ao74, co74, eo74⟩ := Kd.R_slice HO_5.out
                    subst eo74
                    go_wp2
                    go_ret
                    exact ⟨by first | rfl | (simp [errW_none, errW_some] <;> rfl) | (simp [*, errW_none, errW_some] <;> rfl) | (simp [errW_none, errW_some]; generalize ByteArray.toList _ = l_; cases l_ <;> rfl), by repeat (first | (with_reducible first | exact HB.out | apply below_alloc | apply pw_below_drewN | apply below_drew1) | exact HB.out)⟩
  · replace c4 := Bool.eq_false_iff.mpr c4
    subst c4
    have H1 : (some true) = some r := by rw [if_neg (show ¬ (false = true) by decide)] at H; exact H
    clear H
    have H := H1
    clear H1
    obtain rfl := Option.some.inj H
    go_enter Tryd.func4, Tryd.ntmps4
    go_wp2_with (first | ((with_reducible refine gate_callee (f := 14) rfl ?_); refine goesL_ (some 18) rfl rfl Tryd.func14 (by kernel_rfl) rfl #[.slice A0 l0.length c0] rfl (by (try simp only [List.map_toArray, List.map_cons, List.map_nil]); first | done | rfl | (simp only [List.length_drop, List.length_take]; rfl)) ?_; (with_reducible refine (laws_zzFits7.calls k _ _ l0 false _ ?side1 ?side2 A3.out).mono ?_); (case side1 => repeat (first | exact HR0.out | (with_reducible refine Kd.C_alloc ?_ _) | (with_reducible refine Kd.C_drewN ?_ _) | (with_reducible refine Kd.C_drew ?_))); (case side2 => exact HC0.out); rintro e w75 ⟨rfl, hb⟩; refine ⟨_, rfl, ?_⟩; have n0_ := Aside0.mk (below_step (by repeat (first | (with_reducible first | exact HB.out | apply below_alloc | apply pw_below_drewN | apply below_drew1) | exact HB.out)) hb); clear HB; have HB := n0_; clear n0_; (try clear hb); (try clear hb2); (try clear hk); (try clear hi)))
    go_ret
    exact ⟨by first | rfl | (simp [errW_none, errW_some] <;> rfl) | (simp [*, errW_none, errW_some] <;> rfl) | (simp [errW_none, errW_some]; generalize ByteArray.toList _ = l_; cases l_ <;> rfl), by repeat (first | (with_reducible first | exact HB.out | apply below_alloc | apply pw_below_drewN | apply below_drew1) | exact HB.out)⟩

end Go.Proofs.YtmfblbjklmgncaaDoor.PFnProtoMessage
