-- Written by hprint.py (this session's program, over the kit's printing program, with this session's own contracts in it). Not trusted: Lean checks it.
import Derived.Test.YtmfblbjklmgncaaDoorPFnNeedsUpx0
import Derived.Test.YtmfblbjklmgncaaDoorPFnNeedsUpx1
import Derived.Test.YtmfblbjklmgncaaDoorPFnNeedsUpx2
namespace Go.Proofs.YtmfblbjklmgncaaDoor.PFnNeedsUp
open Go.RowKit Go.Proofs.YtmfblbjklmgncaaDoorW.PrintWords Go.Proofs.YtmfblbjklmgncaaDoorW.PrintLast Go.Proofs.YtmfblbjklmgncaaDoorW.PrintMore
attribute [local go_sem] max2_int min2_int max_two min_two max_three min_three max_four min_four   -- for this text's walks alone
set_option linter.unusedVariables false
set_option linter.unusedSimpArgs false

/-! ### spec_FilterSubject: function 26 -/
def spec_FilterSubject.l0 : Nat → List ByteArray → List ByteArray → Int → Option (ByteArray)
  | 0, _, _, _ => none
  | k + 1, x3, x4, x5 => if x5 < (x4.length : Int) then (if 0 ≤ x5 then (if (rdOf ByteArray.empty x4 x5).toList = ([43] : List UInt8) then (if x3.length < 8796093022208 then (spec_FilterSubject.l0 k (x3 ++ [(⟨#[42]⟩ : ByteArray)]) x4 (wrap64 (x5 + 1))) else (none)) else (if (rdOf ByteArray.empty x4 x5).toList = ([35] : List UInt8) then (if x3.length < 8796093022208 then (spec_FilterSubject.l0 k (x3 ++ [(⟨#[62]⟩ : ByteArray)]) x4 (wrap64 (x5 + 1))) else (none)) else ((spec_level.f k (rdOf ByteArray.empty x4 x5)).bind fun t142 => (if x3.length < 8796093022208 then (spec_FilterSubject.l0 k (x3 ++ [t142]) x4 (wrap64 (x5 + 1))) else (none))))) else (none)) else ((spec_Join.f k x3).bind fun t133 => (some t133))
def spec_FilterSubject.f (k : Nat) (a0 : ByteArray) : Option (ByteArray) := (spec_levels.f k a0).bind fun t130 => (spec_FilterSubject.l0 k ([] : List ByteArray) t130 0)
theorem spec_FilterSubject.mono_l : ∀ k, (∀ y0 y1 y2, LeO (spec_FilterSubject.l0 k y0 y1 y2) (spec_FilterSubject.l0 (k + 1) y0 y1 y2))
  | 0 => fun _ _ _ r h => by simp [spec_FilterSubject.l0] at h
  | k + 1 => by
    have ih0 := spec_FilterSubject.mono_l k
    · intro y0 y1 y2
      unfold spec_FilterSubject.l0
      repeat' first
      | (with_reducible exact ih0 _ _ _)
      | (with_reducible exact spec_Join.mono _ _)
      | (with_reducible exact spec_level.mono _ _)
      | (with_reducible exact spec_levels.mono _ _)
      | (with_reducible exact LeO.refl _)
      | (with_reducible exact LeO.none _)
      | (with_reducible refine LeO.ite ?_ ?_)
      | (with_reducible refine LeO.bind ?_ (fun _ => ?_))
      | exact ih0 _ _ _
      | exact spec_Join.mono _ _
      | exact spec_level.mono _ _
      | exact spec_levels.mono _ _
      | exact LeO.none _
      | refine LeO.ite ?_ ?_
      | refine LeO.bind ?_ (fun _ => ?_)
theorem spec_FilterSubject.mono : ∀ a0 k, LeO (spec_FilterSubject.f k a0) (spec_FilterSubject.f (k + 1) a0) := by
  intro a0 k
  have ih0 := spec_FilterSubject.mono_l k
  unfold spec_FilterSubject.f
  repeat' first
      | (with_reducible exact ih0 _ _ _)
      | (with_reducible exact spec_Join.mono _ _)
      | (with_reducible exact spec_level.mono _ _)
      | (with_reducible exact spec_levels.mono _ _)
      | (with_reducible exact LeO.refl _)
      | (with_reducible exact LeO.none _)
      | (with_reducible refine LeO.ite ?_ ?_)
      | (with_reducible refine LeO.bind ?_ (fun _ => ?_))
      | exact ih0 _ _ _
      | exact spec_Join.mono _ _
      | exact spec_level.mono _ _
      | exact spec_levels.mono _ _
      | exact LeO.none _
      | refine LeO.ite ?_ ?_
      | refine LeO.bind ?_ (fun _ => ?_)
set_option maxHeartbeats 8000000 in
set_option maxRecDepth 100000 in
theorem spec_FilterSubject.calls (k : Nat) (a0 : ByteArray) (r : ByteArray) (w : World) (h : spec_FilterSubject.f k a0 = some r) :
    Calls Tryd.prog 26 #[.string a0] w fun e w' => e = .returned (.string r) ∧ Below w.heap.size w w' := by
  have HB := Aside0.mk (Below.refl w.heap.size w)
  have H : ((spec_levels.f k a0).bind fun t130 => (spec_FilterSubject.l0 k ([] : List ByteArray) t130 0)) = some r := h
  clear h
  replace H := Option.bind_eq_some_iff.mp H
  obtain ⟨t130, A20, H⟩ := H
  replace H : (spec_FilterSubject.l0 k ([] : List ByteArray) t130 0) = some r := H
  have A2 := Aside0.mk A20
  clear A20
  have H' := Aside0.mk H
  clear H
  go_enter Tryd.func26, Tryd.ntmps26
  go_wp2_with (first | ((with_reducible refine gate_callee (f := 45) rfl ?_); refine goesL_ (some 7) rfl rfl Tryd.func45 (by kernel_rfl) rfl #[.string a0] rfl (by (try simp only [List.map_toArray, List.map_cons, List.map_nil]); first | done | rfl | (simp only [List.length_drop, List.length_take]; rfl)) ?_; (with_reducible refine (spec_levels.calls k a0 t130 _ A2.out).mono ?_); rintro e w3 ⟨v131, rfl, ho0, hb⟩; refine ⟨_, rfl, ?_⟩; have n0_ := Aside0.mk (Kd.R_lower ho0 (below_size (by repeat (first | (with_reducible first | exact HB.out | apply below_alloc | apply pw_below_drewN | apply below_drew1) | exact HB.out)))); have n1_ := Aside0.mk (below_step (by repeat (first | (with_reducible first | exact HB.out | apply below_alloc | apply pw_below_drewN | apply below_drew1) | exact HB.out)) hb); clear HB; have HO132 := n0_; have HB := n1_; clear n0_ n1_; (try clear hb); (try clear hb2); (try clear hk); (try clear hi); (try clear ho0)))
  go_loopg [3, 5] k (fun kq v3 v5 w' => ∃ (x3_1 : List ByteArray) (x5_1 : Int), v5 = .int .i64 x5_1 ∧ Aside0 (spec_FilterSubject.l0 kq x3_1 t130 x5_1 = some r) ∧ Aside0 (kq ≤ k) ∧ Aside0 (Kd.R Kd.string 9 w' w.heap.size (fun k_ => some k_ ≠ (v131 : Value).ownBlock) v3 x3_1) ∧ Aside0 (Kd.R Kd.string 9 w' w.heap.size (fun k_ => some k_ ≠ (v3 : Value).ownBlock) v131 t130) ∧ Aside0 (Below w.heap.size w w'))
  case atStart => exact ⟨(([] : List ByteArray)), (0), (by first | rfl | (simp; done) | (simp [*]; done)), H', ⟨Nat.le_refl _⟩, ⟨by first | exact Kd.R_nil _ _ _ _ _ | exact Kd.N_nil _ _ _ _ _ | exact Kd.V_nil _ _ _ _ _ | exact Kd.Q_nil _ _ _ _ _ | exact Kd.S_nil _ _ _ _ _⟩, ⟨by (with_reducible repeat (first | apply Kd.R_alloc | apply Kd.R_drewN | apply Kd.R_drew)); exact Kd.R_mono HO132.out (fun _ hk => (by simp [Value.ownBlock]))⟩, ⟨by repeat (first | (with_reducible first | exact HB.out | apply below_alloc | apply pw_below_drewN | apply below_drew1) | exact HB.out)⟩⟩
  case round =>
    clear H'
    try clear c2
    try clear p2
    obtain ⟨x3_1, x5_1, rfl, HA, HK1, HO_3, HO_4, HB⟩ := hrel
    cases gk with
    | zero => exact absurd HA.out (by simp [spec_FilterSubject.l0])
    | succ k1 =>
      have H := HA.out
      clear HA
      simp only [spec_FilterSubject.l0] at H
      by_cases c4 : x5_1 < (t130.length : Int)
      · rw [if_pos c4] at H
        have c4b0 : decide (x5_1 < (t130.length : Int)) = true := decide_eq_true c4
        clear c4
        by_cases c5 : 0 ≤ x5_1
        · rw [if_pos c5] at H
          have c5b0 : decide (0 ≤ x5_1) = true := decide_eq_true c5
          clear c5
          by_cases c6 : (rdOf ByteArray.empty t130 x5_1).toList = ([43] : List UInt8)
          · rw [if_pos c6] at H
            have c6b0 : ((rdOf ByteArray.empty t130 x5_1).toList == ([43] : List UInt8)) = true := beq_iff_eq.mpr c6
            have c6b1 : ((rdOf ByteArray.empty t130 x5_1).toList != ([43] : List UInt8)) = false := bne_eq_false_iff_eq.mpr c6
            clear c6
            by_cases c7 : x3_1.length < 8796093022208
            · rw [if_pos c7] at H
              have LMc7 := Aside0.mk c7
              clear c7
              obtain ⟨y135, hy135⟩ : ∃ y_ : List ByteArray, y_ = (x3_1 ++ [(⟨#[42]⟩ : ByteArray)]) := ⟨_, rfl⟩
              replace H : (spec_FilterSubject.l0 k1 y135 t130 (wrap64 (x5_1 + 1))) = some r := by first | (rw [hy135]; with_reducible exact H) | (have H2_ := (Option.bind_some _ _).symm.trans H; rw [hy135]; with_reducible exact H2_) | (have H2_ := (Option.bind_some _ _).symm.trans H; with_reducible exact H2_) | with_reducible exact H | (rw [hy135]; exact H) | exact H
              have Ny135 := Aside0.mk hy135
              clear hy135
              have H' := Aside0.mk H
              clear H
              obtain ⟨Ao8, co8, eo8⟩ := Kd.R_slice HO_4.out
              subst eo8
              have p134 : 0 ≤ (x5_1 : Int) := of_decide_eq_true (by first | (with_reducible assumption) | assumption)
              have q134 : x5_1 < (t130.length : Int) := of_decide_eq_true (by first | (with_reducible assumption) | assumption)
              obtain ⟨ad134, e134, hx134_0⟩ := Kd.at_string (Kd.R_reads' HO_4.out).2.2 x5_1 p134 q134
              cases e134
              replace p134 := eq_true p134
              replace q134 := eq_true q134
              go_wp2_with (first | ((with_reducible refine gate_builtin (b := .append) (xs := #[.tmp 28, .tmp 29]) rfl ?_); at_builtin; refine Kd.R_append Kd.string (w0 := w) w.heap.size rfl (.tmp 28) (.tmp 29) 64 9 (.string ⟨#[]⟩) 16 rfl Tryd.underlying64 info9 rfl (by decide) (by omega) u3 x3_1 (⟨#[42]⟩ : ByteArray) [.string (⟨#[42]⟩ : ByteArray)] (fun k_ => some k_ ≠ (.slice (some ad134) t130.length co8 : Value).ownBlock) (fun _ => False) rfl rfl ?aP (fun _ hk => hk.elim) ?aF ?aO ?aB ?aS ?aL ?_; (case aP => exact rfl); (case aB => exact (by repeat (first | (with_reducible first | exact HB.out | apply below_alloc | apply pw_below_drewN | apply below_drew1) | exact HB.out))); (case aF => exact (fun k_ hk => Kd.fresh' (Kd.R_lt (by (with_reducible repeat (first | apply Kd.R_alloc | apply Kd.R_drewN | apply Kd.R_drew)); exact HO_4.out)) k_ hk)); (case aO => exact (by (with_reducible repeat (first | apply Kd.R_alloc | apply Kd.R_drewN | apply Kd.R_drew)); exact HO_3.out)); (case aS => exact (below_size (by repeat (first | (with_reducible first | exact HB.out | apply below_alloc | apply pw_below_drewN | apply below_drew1) | exact HB.out)))); (case aL => have := LMc7.out; omega); intro v136 w9 ho hb hg hat; rw [← Ny135.out] at ho; have n0_ := Aside0.mk (Kd.R_after (ok := (fun _ => True)) (by (with_reducible repeat (first | apply Kd.R_alloc | apply Kd.R_drewN | apply Kd.R_drew)); exact Kd.R_mono HO_4.out (fun _ hk => ⟨trivial, hk⟩)) hg hat); have n1_ := Aside0.mk (hb); have n2_ := Aside0.mk (ho); clear HO_4; clear HB; clear HO_3; have HO_4 := n0_; have HB := n1_; have HO137 := n2_; clear n0_ n1_ n2_; clear ho hb hg hat))
              go_roundg k1
              case measure => have := HK1.out; omega
              case rel => exact ⟨(y135), (wrap64 (x5_1 + 1)), (by first | rfl | (simp; done) | (simp [*]; done)), H', ⟨by have := HK1.out; omega⟩, ⟨by (with_reducible repeat (first | apply Kd.R_alloc | apply Kd.R_drewN | apply Kd.R_drew)); exact HO137.out⟩, ⟨by (with_reducible repeat (first | apply Kd.R_alloc | apply Kd.R_drewN | apply Kd.R_drew)); exact Kd.R_mono HO_4.out (fun _ hk => hk.2)⟩, ⟨by repeat (first | (with_reducible first | exact HB.out | apply below_alloc | apply pw_below_drewN | apply below_drew1) | exact HB.out)⟩⟩
            · rw [if_neg c7] at H
              exact absurd H (by simp)
          · rw [if_neg c6] at H
            have c6b0 : ((rdOf ByteArray.empty t130 x5_1).toList == ([43] : List UInt8)) = false := beq_eq_false_iff_ne.mpr c6
            have c6b1 : ((rdOf ByteArray.empty t130 x5_1).toList != ([43] : List UInt8)) = true := bne_iff_ne.mpr c6
            by_cases c10 : (rdOf ByteArray.empty t130 x5_1).toList = ([35] : List UInt8)
            · rw [if_pos c10] at H
              have c10b0 : ((rdOf ByteArray.empty t130 x5_1).toList == ([35] : List UInt8)) = true := beq_iff_eq.mpr c10
              have c10b1 : ((rdOf ByteArray.empty t130 x5_1).toList != ([35] : List UInt8)) = false := bne_eq_false_iff_eq.mpr c10
              clear c10
              by_cases c11 : x3_1.length < 8796093022208
              · rw [if_pos c11] at H
                have LMc11 := Aside0.mk c11
                clear c11
                obtain ⟨y138, hy138⟩ : ∃ y_ : List ByteArray, y_ = (x3_1 ++ [(⟨#[62]⟩ : ByteArray)]) := ⟨_, rfl⟩
                replace H : (spec_FilterSubject.l0 k1 y138 t130 (wrap64 (x5_1 + 1))) = some r := by first | (rw [hy138]; with_reducible exact H) | (have H2_ := (Option.bind_some _ _).symm.trans H; rw [hy138]; with_reducible exact H2_) | (have H2_ := (Option.bind_some _ _).symm.trans H; with_reducible exact H2_) | with_reducible exact H | (rw [hy138]; exact H) | exact H
                have Ny138 := Aside0.mk hy138
                clear hy138
                have H' := Aside0.mk H
                clear H
                obtain ⟨Ao12, co12, eo12⟩ := Kd.R_slice HO_4.out
                subst eo12
                have p134 : 0 ≤ (x5_1 : Int) := of_decide_eq_true (by first | (with_reducible assumption) | assumption)
                have q134 : x5_1 < (t130.length : Int) := of_decide_eq_true (by first | (with_reducible assumption) | assumption)
                obtain ⟨ad134, e134, hx134_0⟩ := Kd.at_string (Kd.R_reads' HO_4.out).2.2 x5_1 p134 q134
                cases e134
                replace p134 := eq_true p134
                replace q134 := eq_true q134
                go_wp2_with (first | ((with_reducible refine gate_builtin (b := .append) (xs := #[.tmp 33, .tmp 34]) rfl ?_); at_builtin; refine Kd.R_append Kd.string (w0 := w) w.heap.size rfl (.tmp 33) (.tmp 34) 64 9 (.string ⟨#[]⟩) 16 rfl Tryd.underlying64 info9 rfl (by decide) (by omega) u3 x3_1 (⟨#[62]⟩ : ByteArray) [.string (⟨#[62]⟩ : ByteArray)] (fun k_ => some k_ ≠ (.slice (some ad134) t130.length co12 : Value).ownBlock) (fun _ => False) rfl rfl ?aP (fun _ hk => hk.elim) ?aF ?aO ?aB ?aS ?aL ?_; (case aP => exact rfl); (case aB => exact (by repeat (first | (with_reducible first | exact HB.out | apply below_alloc | apply pw_below_drewN | apply below_drew1) | exact HB.out))); (case aF => exact (fun k_ hk => Kd.fresh' (Kd.R_lt (by (with_reducible repeat (first | apply Kd.R_alloc | apply Kd.R_drewN | apply Kd.R_drew)); exact HO_4.out)) k_ hk)); (case aO => exact (by (with_reducible repeat (first | apply Kd.R_alloc | apply Kd.R_drewN | apply Kd.R_drew)); exact HO_3.out)); (case aS => exact (below_size (by repeat (first | (with_reducible first | exact HB.out | apply below_alloc | apply pw_below_drewN | apply below_drew1) | exact HB.out)))); (case aL => have := LMc11.out; omega); intro v139 w13 ho hb hg hat; rw [← Ny138.out] at ho; have n0_ := Aside0.mk (Kd.R_after (ok := (fun _ => True)) (by (with_reducible repeat (first | apply Kd.R_alloc | apply Kd.R_drewN | apply Kd.R_drew)); exact Kd.R_mono HO_4.out (fun _ hk => ⟨trivial, hk⟩)) hg hat); have n1_ := Aside0.mk (hb); have n2_ := Aside0.mk (ho); clear HO_4; clear HB; clear HO_3; have HO_4 := n0_; have HB := n1_; have HO140 := n2_; clear n0_ n1_ n2_; clear ho hb hg hat))
                go_roundg k1
                case measure => have := HK1.out; omega
                case rel => exact ⟨(y138), (wrap64 (x5_1 + 1)), (by first | rfl | (simp; done) | (simp [*]; done)), H', ⟨by have := HK1.out; omega⟩, ⟨by (with_reducible repeat (first | apply Kd.R_alloc | apply Kd.R_drewN | apply Kd.R_drew)); exact HO140.out⟩, ⟨by (with_reducible repeat (first | apply Kd.R_alloc | apply Kd.R_drewN | apply Kd.R_drew)); exact Kd.R_mono HO_4.out (fun _ hk => hk.2)⟩, ⟨by repeat (first | (with_reducible first | exact HB.out | apply below_alloc | apply pw_below_drewN | apply below_drew1) | exact HB.out)⟩⟩
              · rw [if_neg c11] at H
                exact absurd H (by simp)
            · rw [if_neg c10] at H
              have c10b0 : ((rdOf ByteArray.empty t130 x5_1).toList == ([35] : List UInt8)) = false := beq_eq_false_iff_ne.mpr c10
              have c10b1 : ((rdOf ByteArray.empty t130 x5_1).toList != ([35] : List UInt8)) = true := bne_iff_ne.mpr c10
              replace H := Option.bind_eq_some_iff.mp H
              obtain ⟨t142, A140, H⟩ := H
              replace H : (if x3_1.length < 8796093022208 then (spec_FilterSubject.l0 k1 (x3_1 ++ [t142]) t130 (wrap64 (x5_1 + 1))) else (none)) = some r := H
              have A14 := Aside0.mk A140
              clear A140
              by_cases c15 : x3_1.length < 8796093022208
              · rw [if_pos c15] at H
                have LMc15 := Aside0.mk c15
                clear c15
                obtain ⟨y143, hy143⟩ : ∃ y_ : List ByteArray, y_ = (x3_1 ++ [t142]) := ⟨_, rfl⟩
                replace H : (spec_FilterSubject.l0 k1 y143 t130 (wrap64 (x5_1 + 1))) = some r := by first | (rw [hy143]; with_reducible exact H) | (have H2_ := (Option.bind_some _ _).symm.trans H; rw [hy143]; with_reducible exact H2_) | (have H2_ := (Option.bind_some _ _).symm.trans H; with_reducible exact H2_) | with_reducible exact H | (rw [hy143]; exact H) | exact H
                have Ny143 := Aside0.mk hy143
                clear hy143
                have H' := Aside0.mk H
                clear H
                obtain ⟨Ao16, co16, eo16⟩ := Kd.R_slice HO_4.out
                subst eo16
                have p134 : 0 ≤ (x5_1 : Int) := of_decide_eq_true (by first | (with_reducible assumption) | assumption)
                have q134 : x5_1 < (t130.length : Int) := of_decide_eq_true (by first | (with_reducible assumption) | assumption)
                obtain ⟨ad134, e134, hx134_0⟩ := Kd.at_string (Kd.R_reads' HO_4.out).2.2 x5_1 p134 q134
                cases e134
                replace p134 := eq_true p134
                replace q134 := eq_true q134
                have p141 : 0 ≤ (x5_1 : Int) := of_decide_eq_true (by first | (with_reducible assumption) | assumption)
                have q141 : x5_1 < (t130.length : Int) := of_decide_eq_true (by first | (with_reducible assumption) | assumption)
                obtain ⟨ad141, e141, hx141_0⟩ := Kd.at_string (Kd.R_reads' HO_4.out).2.2 x5_1 p141 q141
                obtain rfl : ad134 = ad141 := (by injection e141)
                replace p141 := eq_true p141
                replace q141 := eq_true q141
                go_wp2_with (first | ((with_reducible refine gate_callee (f := 46) rfl ?_); refine goesL_ (some 23) rfl rfl Tryd.func46 (by kernel_rfl) rfl #[.string (rdOf ByteArray.empty t130 x5_1)] rfl (by (try simp only [List.map_toArray, List.map_cons, List.map_nil]); first | done | rfl | (simp only [List.length_drop, List.length_take]; rfl)) ?_; (with_reducible refine (spec_level.calls k1 (rdOf ByteArray.empty t130 x5_1) t142 _ A14.out).mono ?_); rintro e w' ⟨rfl, ⟨nd, rfl⟩⟩; refine ⟨_, rfl, ?_⟩) | ((with_reducible refine gate_builtin (b := .append) (xs := #[.tmp 18, .tmp 24]) rfl ?_); at_builtin; refine Kd.R_append Kd.string (w0 := w) w.heap.size rfl (.tmp 18) (.tmp 24) 64 9 (.string ⟨#[]⟩) 16 rfl Tryd.underlying64 info9 rfl (by decide) (by omega) u3 x3_1 t142 [.string t142] (fun k_ => some k_ ≠ (.slice (some ad134) t130.length co16 : Value).ownBlock) (fun _ => False) rfl rfl ?aP (fun _ hk => hk.elim) ?aF ?aO ?aB ?aS ?aL ?_; (case aP => exact rfl); (case aB => exact (by repeat (first | (with_reducible first | exact HB.out | apply below_alloc | apply pw_below_drewN | apply below_drew1) | exact HB.out))); (case aF => exact (fun k_ hk => Kd.fresh' (Kd.R_lt (by (with_reducible repeat (first | apply Kd.R_alloc | apply Kd.R_drewN | apply Kd.R_drew)); exact HO_4.out)) k_ hk)); (case aO => exact (by (with_reducible repeat (first | apply Kd.R_alloc | apply Kd.R_drewN | apply Kd.R_drew)); exact HO_3.out)); (case aS => exact (below_size (by repeat (first | (with_reducible first | exact HB.out | apply below_alloc | apply pw_below_drewN | apply below_drew1) | exact HB.out)))); (case aL => have := LMc15.out; omega); intro v144 w17 ho hb hg hat; rw [← Ny143.out] at ho; have n0_ := Aside0.mk (Kd.R_after (ok := (fun _ => True)) (by (with_reducible repeat (first | apply Kd.R_alloc | apply Kd.R_drewN | apply Kd.R_drew)); exact Kd.R_mono HO_4.out (fun _ hk => ⟨trivial, hk⟩)) hg hat); have n1_ := Aside0.mk (hb); have n2_ := Aside0.mk (ho); clear HO_4; clear HB; clear HO_3; have HO_4 := n0_; have HB := n1_; have HO145 := n2_; clear n0_ n1_ n2_; clear ho hb hg hat))
                go_roundg k1
                case measure => have := HK1.out; omega
                case rel => exact ⟨(y143), (wrap64 (x5_1 + 1)), (by first | rfl | (simp; done) | (simp [*]; done)), H', ⟨by have := HK1.out; omega⟩, ⟨by (with_reducible repeat (first | apply Kd.R_alloc | apply Kd.R_drewN | apply Kd.R_drew)); exact HO145.out⟩, ⟨by (with_reducible repeat (first | apply Kd.R_alloc | apply Kd.R_drewN | apply Kd.R_drew)); exact Kd.R_mono HO_4.out (fun _ hk => hk.2)⟩, ⟨by repeat (first | (with_reducible first | exact HB.out | apply below_alloc | apply pw_below_drewN | apply below_drew1) | exact HB.out)⟩⟩
              · rw [if_neg c15] at H
                exact absurd H (by simp)
        · rw [if_neg c5] at H
          exact absurd H (by simp)
      · rw [if_neg c4] at H
        have c4b0 : decide (x5_1 < (t130.length : Int)) = false := decide_eq_false c4
        clear c4
        replace H := Option.bind_eq_some_iff.mp H
        obtain ⟨t133, A180, H⟩ := H
        replace H : (some t133) = some r := H
        have A18 := Aside0.mk A180
        clear A180
        obtain rfl := Option.some.inj H
        obtain ⟨Ao19, co19, eo19⟩ := Kd.R_slice HO_4.out
        subst eo19
        obtain ⟨Ao20, co20, eo20⟩ := Kd.R_slice HO_3.out
        subst eo20
        go_wp2_with (first | ((with_reducible refine gate_callee (f := 47) rfl ?_); refine goesL_ (some 37) rfl rfl Tryd.func47 (by kernel_rfl) rfl #[.slice Ao20 x3_1.length co20] rfl (by (try simp only [List.map_toArray, List.map_cons, List.map_nil]); first | done | rfl | (simp only [List.length_drop, List.length_take]; rfl)) ?_; (with_reducible refine (spec_Join.calls k1 _ _ x3_1 t133 _ ?side1 ?side2 A18.out).mono ?_); (case side1 => repeat (first | exact (Kd.R_reads' HO_3.out).2.2 | (with_reducible refine Kd.C_alloc ?_ _) | (with_reducible refine Kd.C_drewN ?_ _) | (with_reducible refine Kd.C_drew ?_))); (case side2 => exact (Kd.R_reads' HO_3.out).2.1); rintro e w' ⟨rfl, ⟨nd, rfl⟩⟩; refine ⟨_, rfl, ?_⟩))
        go_ret
        exact ⟨by first | rfl | (simp [errW_none, errW_some] <;> rfl) | (simp [*, errW_none, errW_some] <;> rfl) | (simp [errW_none, errW_some]; generalize ByteArray.toList _ = l_; cases l_ <;> rfl), by repeat (first | (with_reducible first | exact HB.out | apply below_alloc | apply pw_below_drewN | apply below_drew1) | exact HB.out)⟩

/-! ### spec_LevelUp: function 27 -/
def spec_LevelUp.f (k : Nat) (a0 : ByteArray) : Option (Bool) := (spec_levels.f k a0).bind fun t146 => (if (t146.length : Int) > 1 then (if 0 ≤ (wrap64 ((t146.length : Int) - 1)) then (if (wrap64 ((t146.length : Int) - 1)) < (t146.length : Int) then (some ((rdOf ByteArray.empty t146 (wrap64 ((t146.length : Int) - 1))).toList == ([35] : List UInt8))) else (none)) else (none)) else (some false))
theorem spec_LevelUp.mono : ∀ a0 k, LeO (spec_LevelUp.f k a0) (spec_LevelUp.f (k + 1) a0) := by
  intro a0 k
  unfold spec_LevelUp.f
  repeat' first
      | (with_reducible exact spec_levels.mono _ _)
      | (with_reducible exact LeO.refl _)
      | (with_reducible exact LeO.none _)
      | (with_reducible refine LeO.ite ?_ ?_)
      | (with_reducible refine LeO.bind ?_ (fun _ => ?_))
      | exact spec_levels.mono _ _
      | exact LeO.none _
      | refine LeO.ite ?_ ?_
      | refine LeO.bind ?_ (fun _ => ?_)
set_option maxHeartbeats 8000000 in
set_option maxRecDepth 100000 in
theorem spec_LevelUp.calls (k : Nat) (a0 : ByteArray) (r : Bool) (w : World) (h : spec_LevelUp.f k a0 = some r) :
    Calls Tryd.prog 27 #[.string a0] w fun e w' => e = .returned (.bool r) ∧ Below w.heap.size w w' := by
  have HB := Aside0.mk (Below.refl w.heap.size w)
  have H : ((spec_levels.f k a0).bind fun t146 => (if (t146.length : Int) > 1 then (if 0 ≤ (wrap64 ((t146.length : Int) - 1)) then (if (wrap64 ((t146.length : Int) - 1)) < (t146.length : Int) then (some ((rdOf ByteArray.empty t146 (wrap64 ((t146.length : Int) - 1))).toList == ([35] : List UInt8))) else (none)) else (none)) else (some false))) = some r := h
  clear h
  replace H := Option.bind_eq_some_iff.mp H
  obtain ⟨t146, A20, H⟩ := H
  replace H : (if (t146.length : Int) > 1 then (if 0 ≤ (wrap64 ((t146.length : Int) - 1)) then (if (wrap64 ((t146.length : Int) - 1)) < (t146.length : Int) then (some ((rdOf ByteArray.empty t146 (wrap64 ((t146.length : Int) - 1))).toList == ([35] : List UInt8))) else (none)) else (none)) else (some false)) = some r := H
  have A2 := Aside0.mk A20
  clear A20
  by_cases c3 : (t146.length : Int) > 1
  · rw [if_pos c3] at H
    have c3b0 : decide (1 < (t146.length : Int)) = true := decide_eq_true c3
    have c3b1 : decide (1 < t146.length) = true := decide_eq_true (by omega)
    clear c3
    obtain ⟨ji4, hji4⟩ : ∃ j_ : Int, (wrap64 ((t146.length : Int) - 1)) = j_ := ⟨_, rfl⟩
    replace H : (if 0 ≤ (ji4) then (if (ji4) < (t146.length : Int) then (some ((rdOf ByteArray.empty t146 (ji4)).toList == ([35] : List UInt8))) else (none)) else (none)) = some r := by first | (rw [hji4] at H; exact H) | (simp only [hji4] at H ⊢; exact H)
    (try rw [hji4] at A2)
    have hji4w : (IntKind.i64.wrap ((t146.length : Int) - 1)) = ji4 := (i64_w _).trans hji4
    by_cases c5 : 0 ≤ (ji4)
    · rw [if_pos c5] at H
      have c5b0 : decide (0 ≤ (ji4)) = true := decide_eq_true c5
      clear c5
      by_cases c6 : (ji4) < (t146.length : Int)
      · rw [if_pos c6] at H
        have c6b0 : decide ((ji4) < (t146.length : Int)) = true := decide_eq_true c6
        clear c6
        obtain rfl := Option.some.inj H
        go_enter Tryd.func27, Tryd.ntmps27
        go_wp2_with (first | ((with_reducible refine gate_callee (f := 45) rfl ?_); refine goesL_ (some 5) rfl rfl Tryd.func45 (by kernel_rfl) rfl #[.string a0] rfl (by (try simp only [List.map_toArray, List.map_cons, List.map_nil]); first | done | rfl | (simp only [List.length_drop, List.length_take]; rfl)) ?_; (with_reducible refine (spec_levels.calls k a0 t146 _ A2.out).mono ?_); rintro e w7 ⟨v147, rfl, ho0, hb⟩; refine ⟨_, rfl, ?_⟩; have n0_ := Aside0.mk (Kd.R_lower ho0 (below_size (by repeat (first | (with_reducible first | exact HB.out | apply below_alloc | apply pw_below_drewN | apply below_drew1) | exact HB.out)))); have n1_ := Aside0.mk (below_step (by repeat (first | (with_reducible first | exact HB.out | apply below_alloc | apply pw_below_drewN | apply below_drew1) | exact HB.out)) hb); clear HB; have HO148 := n0_; have HB := n1_; clear n0_ n1_; (try clear hb); (try clear hb2); (try clear hk); (try clear hi); (try clear ho0); obtain ⟨Ao8, co8, eo8⟩ := Kd.R_slice HO148.out; subst eo8; have p149 : 0 ≤ ((ji4) : Int) := of_decide_eq_true (by first | (with_reducible assumption) | assumption); have q149 : (ji4) < (t146.length : Int) := of_decide_eq_true (by first | (with_reducible assumption) | assumption); obtain ⟨ad149, e149, hx149_0⟩ := Kd.at_string (Kd.R_reads' HO148.out).2.2 (ji4) p149 q149; cases e149; replace p149 := eq_true p149; replace q149 := eq_true q149))
        go_ret
        exact ⟨by first | rfl | (simp [errW_none, errW_some] <;> rfl) | (simp only [← hji4]; first | rfl | (simp [errW_none, errW_some] <;> rfl)) | (simp [*, errW_none, errW_some] <;> rfl) | (simp [errW_none, errW_some]; generalize ByteArray.toList _ = l_; cases l_ <;> rfl), by repeat (first | (with_reducible first | exact HB.out | apply below_alloc | apply pw_below_drewN | apply below_drew1) | exact HB.out)⟩
      · rw [if_neg c6] at H
        exact absurd H (by simp)
    · rw [if_neg c5] at H
      exact absurd H (by simp)
  · rw [if_neg c3] at H
    have c3b0 : decide (1 < (t146.length : Int)) = false := decide_eq_false c3
    have c3b1 : decide (1 < t146.length) = false := decide_eq_false (by omega)
    clear c3
    obtain rfl := Option.some.inj H
    go_enter Tryd.func27, Tryd.ntmps27
    go_wp2_with (first | ((with_reducible refine gate_callee (f := 45) rfl ?_); refine goesL_ (some 5) rfl rfl Tryd.func45 (by kernel_rfl) rfl #[.string a0] rfl (by (try simp only [List.map_toArray, List.map_cons, List.map_nil]); first | done | rfl | (simp only [List.length_drop, List.length_take]; rfl)) ?_; (with_reducible refine (spec_levels.calls k a0 t146 _ A2.out).mono ?_); rintro e w9 ⟨v147, rfl, ho0, hb⟩; refine ⟨_, rfl, ?_⟩; have n0_ := Aside0.mk (Kd.R_lower ho0 (below_size (by repeat (first | (with_reducible first | exact HB.out | apply below_alloc | apply pw_below_drewN | apply below_drew1) | exact HB.out)))); have n1_ := Aside0.mk (below_step (by repeat (first | (with_reducible first | exact HB.out | apply below_alloc | apply pw_below_drewN | apply below_drew1) | exact HB.out)) hb); clear HB; have HO148 := n0_; have HB := n1_; clear n0_ n1_; (try clear hb); (try clear hb2); (try clear hk); (try clear hi); (try clear ho0); obtain ⟨Ao10, co10, eo10⟩ := Kd.R_slice HO148.out; subst eo10))
    go_ret
    exact ⟨by first | rfl | (simp [errW_none, errW_some] <;> rfl) | (simp [*, errW_none, errW_some] <;> rfl) | (simp [errW_none, errW_some]; generalize ByteArray.toList _ = l_; cases l_ <;> rfl), by repeat (first | (with_reducible first | exact HB.out | apply below_alloc | apply pw_below_drewN | apply below_drew1) | exact HB.out)⟩

/-! ### laws_FnNeedsUp: function 7 -/
def laws_FnNeedsUp.f (k : Nat) (a0 : ByteArray) : Option (Bool) := if (a0.size : Int) > 2147483647 then (some true) else ((laws_filter.f k a0).bind fun t150 => (if t150 = true then ((spec_FilterSubject.f k a0).bind fun t152 => ((impl_NeedsUp.f t152).bind fun t153 => ((spec_LevelUp.f k a0).bind fun t154 => (if (t153 == t154) = true then ((laws_awakeTopic.f).bind fun t155 => (some t155)) else (some false))))) else ((laws_awakeTopic.f).bind fun t151 => (some t151))))
theorem laws_FnNeedsUp.mono : ∀ a0 k, LeO (laws_FnNeedsUp.f k a0) (laws_FnNeedsUp.f (k + 1) a0) := by
  intro a0 k
  unfold laws_FnNeedsUp.f
  repeat' first
      | (with_reducible exact laws_filter.mono _ _)
      | (with_reducible exact spec_FilterSubject.mono _ _)
      | (with_reducible exact spec_LevelUp.mono _ _)
      | (with_reducible exact LeO.refl _)
      | (with_reducible exact LeO.none _)
      | (with_reducible refine LeO.ite ?_ ?_)
      | (with_reducible refine LeO.bind ?_ (fun _ => ?_))
      | exact laws_filter.mono _ _
      | exact spec_FilterSubject.mono _ _
      | exact spec_LevelUp.mono _ _
      | exact LeO.none _
      | refine LeO.ite ?_ ?_
      | refine LeO.bind ?_ (fun _ => ?_)
set_option maxHeartbeats 8000000 in
set_option maxRecDepth 100000 in
theorem laws_FnNeedsUp.calls (k : Nat) (a0 : ByteArray) (r : Bool) (w : World) (h : laws_FnNeedsUp.f k a0 = some r) :
    Calls Tryd.prog 7 #[.string a0] w fun e w' => e = .returned (.bool r) ∧ Below w.heap.size w w' := by
  have HB := Aside0.mk (Below.refl w.heap.size w)
  have H : (if (a0.size : Int) > 2147483647 then (some true) else ((laws_filter.f k a0).bind fun t150 => (if t150 = true then ((spec_FilterSubject.f k a0).bind fun t152 => ((impl_NeedsUp.f t152).bind fun t153 => ((spec_LevelUp.f k a0).bind fun t154 => (if (t153 == t154) = true then ((laws_awakeTopic.f).bind fun t155 => (some t155)) else (some false))))) else ((laws_awakeTopic.f).bind fun t151 => (some t151))))) = some r := h
  clear h
  by_cases c2 : (a0.size : Int) > 2147483647
  · rw [if_pos c2] at H
    have c2b0 : decide (2147483647 < (a0.size : Int)) = true := decide_eq_true c2
    have c2b1 : decide (2147483647 < a0.size) = true := decide_eq_true (by omega)
    clear c2
    obtain rfl := Option.some.inj H
    go_enter Tryd.func7, Tryd.ntmps7
    go_wp2
    go_ret
    exact ⟨by first | rfl | (simp [errW_none, errW_some] <;> rfl) | (simp [*, errW_none, errW_some] <;> rfl) | (simp [errW_none, errW_some]; generalize ByteArray.toList _ = l_; cases l_ <;> rfl), by repeat (first | (with_reducible first | exact HB.out | apply below_alloc | apply pw_below_drewN | apply below_drew1) | exact HB.out)⟩
  · rw [if_neg c2] at H
    have c2b0 : decide (2147483647 < (a0.size : Int)) = false := decide_eq_false c2
    have c2b1 : decide (2147483647 < a0.size) = false := decide_eq_false (by omega)
    clear c2
    replace H := Option.bind_eq_some_iff.mp H
    obtain ⟨t150, A30, H⟩ := H
    replace H : (if t150 = true then ((spec_FilterSubject.f k a0).bind fun t152 => ((impl_NeedsUp.f t152).bind fun t153 => ((spec_LevelUp.f k a0).bind fun t154 => (if (t153 == t154) = true then ((laws_awakeTopic.f).bind fun t155 => (some t155)) else (some false))))) else ((laws_awakeTopic.f).bind fun t151 => (some t151))) = some r := H
    have A3 := Aside0.mk A30
    clear A30
    by_cases c4 : t150 = true
    · subst c4
      have H1 : ((spec_FilterSubject.f k a0).bind fun t152 => ((impl_NeedsUp.f t152).bind fun t153 => ((spec_LevelUp.f k a0).bind fun t154 => (if (t153 == t154) = true then ((laws_awakeTopic.f).bind fun t155 => (some t155)) else (some false))))) = some r := by rw [if_pos rfl] at H; exact H
      clear H
      have H := H1
      clear H1
      replace H := Option.bind_eq_some_iff.mp H
      obtain ⟨t152, A50, H⟩ := H
      replace H : ((impl_NeedsUp.f t152).bind fun t153 => ((spec_LevelUp.f k a0).bind fun t154 => (if (t153 == t154) = true then ((laws_awakeTopic.f).bind fun t155 => (some t155)) else (some false)))) = some r := H
      have A5 := Aside0.mk A50
      clear A50
      replace H := Option.bind_eq_some_iff.mp H
      obtain ⟨t153, A60, H⟩ := H
      replace H : ((spec_LevelUp.f k a0).bind fun t154 => (if (t153 == t154) = true then ((laws_awakeTopic.f).bind fun t155 => (some t155)) else (some false))) = some r := H
      have A6 := Aside0.mk A60
      clear A60
      replace H := Option.bind_eq_some_iff.mp H
      obtain ⟨t154, A70, H⟩ := H
      replace H : (if (t153 == t154) = true then ((laws_awakeTopic.f).bind fun t155 => (some t155)) else (some false)) = some r := H
      have A7 := Aside0.mk A70
      clear A70
      by_cases c8 : (t153 == t154) = true
      · rw [if_pos c8] at H
        have c8b0 : (t153 == t154) = true := c8
        (try (have c8b1 : decide (t153 = t154) = true := by simpa using c8))
        (try (have c8b2 : (t153 == t154) = true := by simpa using c8))
        clear c8
        replace H := Option.bind_eq_some_iff.mp H
        obtain ⟨t155, A90, H⟩ := H
        replace H : (some t155) = some r := H
        have A9 := Aside0.mk A90
        clear A90
        obtain rfl := Option.some.inj H
        go_enter Tryd.func7, Tryd.ntmps7
        go_wp2_with (first | ((with_reducible refine gate_callee (f := 24) rfl ?_); refine goesL_ (some 7) rfl rfl Tryd.func24 (by kernel_rfl) rfl #[.string a0] rfl (by (try simp only [List.map_toArray, List.map_cons, List.map_nil]); first | done | rfl | (simp only [List.length_drop, List.length_take]; rfl)) ?_; (with_reducible refine (laws_filter.calls k a0 true _ A3.out).mono ?_); rintro e w10 ⟨rfl, hb⟩; refine ⟨_, rfl, ?_⟩; have n0_ := Aside0.mk (below_step (by repeat (first | (with_reducible first | exact HB.out | apply below_alloc | apply pw_below_drewN | apply below_drew1) | exact HB.out)) hb); clear HB; have HB := n0_; clear n0_; (try clear hb); (try clear hb2); (try clear hk); (try clear hi)) | ((with_reducible refine gate_callee (f := 26) rfl ?_); refine goesL_ (some 11) rfl rfl Tryd.func26 (by kernel_rfl) rfl #[.string a0] rfl (by (try simp only [List.map_toArray, List.map_cons, List.map_nil]); first | done | rfl | (simp only [List.length_drop, List.length_take]; rfl)) ?_; (with_reducible refine (spec_FilterSubject.calls k a0 t152 _ A5.out).mono ?_); rintro e w11 ⟨rfl, hb⟩; refine ⟨_, rfl, ?_⟩; have n0_ := Aside0.mk (below_step (by repeat (first | (with_reducible first | exact HB.out | apply below_alloc | apply pw_below_drewN | apply below_drew1) | exact HB.out)) hb); clear HB; have HB := n0_; clear n0_; (try clear hb); (try clear hb2); (try clear hk); (try clear hi)) | ((with_reducible refine gate_callee (f := 25) rfl ?_); refine goesL_ (some 12) rfl rfl Tryd.func25 (by kernel_rfl) rfl #[.string t152] rfl (by (try simp only [List.map_toArray, List.map_cons, List.map_nil]); first | done | rfl | (simp only [List.length_drop, List.length_take]; rfl)) ?_; (with_reducible refine (impl_NeedsUp.calls t152 t153 _ A6.out).mono ?_); rintro e w' ⟨rfl, ⟨nd, rfl⟩⟩; refine ⟨_, rfl, ?_⟩) | ((with_reducible refine gate_callee (f := 27) rfl ?_); refine goesL_ (some 14) rfl rfl Tryd.func27 (by kernel_rfl) rfl #[.string a0] rfl (by (try simp only [List.map_toArray, List.map_cons, List.map_nil]); first | done | rfl | (simp only [List.length_drop, List.length_take]; rfl)) ?_; (with_reducible refine (spec_LevelUp.calls k a0 t154 _ A7.out).mono ?_); rintro e w12 ⟨rfl, hb⟩; refine ⟨_, rfl, ?_⟩; have n0_ := Aside0.mk (below_step (by repeat (first | (with_reducible first | exact HB.out | apply below_alloc | apply pw_below_drewN | apply below_drew1) | exact HB.out)) hb); clear HB; have HB := n0_; clear n0_; (try clear hb); (try clear hb2); (try clear hk); (try clear hi)) | (go_at_call 22; (with_reducible refine (laws_awakeTopic.calls  t155 _ A9.out).mono ?_); rintro e w13 ⟨rfl, hb⟩; have n0_ := Aside0.mk (below_step (by repeat (first | (with_reducible first | exact HB.out | apply below_alloc | apply pw_below_drewN | apply below_drew1) | exact HB.out)) hb); clear HB; have HB := n0_; clear n0_; (try clear hb); (try clear hb2); (try clear hk); (try clear hi)))
        go_ret
        exact ⟨by first | rfl | (simp [errW_none, errW_some] <;> rfl) | (simp [*, errW_none, errW_some] <;> rfl) | (simp [errW_none, errW_some]; generalize ByteArray.toList _ = l_; cases l_ <;> rfl), by repeat (first | (with_reducible first | exact HB.out | apply below_alloc | apply pw_below_drewN | apply below_drew1) | exact HB.out)⟩
      · rw [if_neg c8] at H
        have c8b0 : (t153 == t154) = false := by simpa using c8
        (try (have c8b1 : decide (t153 = t154) = false := by simpa using c8))
        (try (have c8b2 : (t153 == t154) = false := by simpa using c8))
        (try (have c8b3 : ¬ (t153 = t154) := by simpa using c8))
        clear c8
        obtain rfl := Option.some.inj H
        go_enter Tryd.func7, Tryd.ntmps7
        go_wp2_with (first | ((with_reducible refine gate_callee (f := 24) rfl ?_); refine goesL_ (some 7) rfl rfl Tryd.func24 (by kernel_rfl) rfl #[.string a0] rfl (by (try simp only [List.map_toArray, List.map_cons, List.map_nil]); first | done | rfl | (simp only [List.length_drop, List.length_take]; rfl)) ?_; (with_reducible refine (laws_filter.calls k a0 true _ A3.out).mono ?_); rintro e w14 ⟨rfl, hb⟩; refine ⟨_, rfl, ?_⟩; have n0_ := Aside0.mk (below_step (by repeat (first | (with_reducible first | exact HB.out | apply below_alloc | apply pw_below_drewN | apply below_drew1) | exact HB.out)) hb); clear HB; have HB := n0_; clear n0_; (try clear hb); (try clear hb2); (try clear hk); (try clear hi)) | ((with_reducible refine gate_callee (f := 26) rfl ?_); refine goesL_ (some 11) rfl rfl Tryd.func26 (by kernel_rfl) rfl #[.string a0] rfl (by (try simp only [List.map_toArray, List.map_cons, List.map_nil]); first | done | rfl | (simp only [List.length_drop, List.length_take]; rfl)) ?_; (with_reducible refine (spec_FilterSubject.calls k a0 t152 _ A5.out).mono ?_); rintro e w15 ⟨rfl, hb⟩; refine ⟨_, rfl, ?_⟩; have n0_ := Aside0.mk (below_step (by repeat (first | (with_reducible first | exact HB.out | apply below_alloc | apply pw_below_drewN | apply below_drew1) | exact HB.out)) hb); clear HB; have HB := n0_; clear n0_; (try clear hb); (try clear hb2); (try clear hk); (try clear hi)) | ((with_reducible refine gate_callee (f := 25) rfl ?_); refine goesL_ (some 12) rfl rfl Tryd.func25 (by kernel_rfl) rfl #[.string t152] rfl (by (try simp only [List.map_toArray, List.map_cons, List.map_nil]); first | done | rfl | (simp only [List.length_drop, List.length_take]; rfl)) ?_; (with_reducible refine (impl_NeedsUp.calls t152 t153 _ A6.out).mono ?_); rintro e w' ⟨rfl, ⟨nd, rfl⟩⟩; refine ⟨_, rfl, ?_⟩) | ((with_reducible refine gate_callee (f := 27) rfl ?_); refine goesL_ (some 14) rfl rfl Tryd.func27 (by kernel_rfl) rfl #[.string a0] rfl (by (try simp only [List.map_toArray, List.map_cons, List.map_nil]); first | done | rfl | (simp only [List.length_drop, List.length_take]; rfl)) ?_; (with_reducible refine (spec_LevelUp.calls k a0 t154 _ A7.out).mono ?_); rintro e w16 ⟨rfl, hb⟩; refine ⟨_, rfl, ?_⟩; have n0_ := Aside0.mk (below_step (by repeat (first | (with_reducible first | exact HB.out | apply below_alloc | apply pw_below_drewN | apply below_drew1) | exact HB.out)) hb); clear HB; have HB := n0_; clear n0_; (try clear hb); (try clear hb2); (try clear hk); (try clear hi)))
        go_ret
        exact ⟨by first | rfl | (simp [errW_none, errW_some] <;> rfl) | (simp [*, errW_none, errW_some] <;> rfl) | (simp [errW_none, errW_some]; generalize ByteArray.toList _ = l_; cases l_ <;> rfl), by repeat (first | (with_reducible first | exact HB.out | apply below_alloc | apply pw_below_drewN | apply below_drew1) | exact HB.out)⟩
    · replace c4 := Bool.eq_false_iff.mpr c4
      subst c4
      have H1 : ((laws_awakeTopic.f).bind fun t151 => (some t151)) = some r := by rw [if_neg (show ¬ (false = true) by decide)] at H; exact H
      clear H
      have H := H1
      clear H1
      replace H := Option.bind_eq_some_iff.mp H
      obtain ⟨t151, A170, H⟩ := H
      replace H : (some t151) = some r := H
      have A17 := Aside0.mk A170
      clear A170
      obtain rfl := Option.some.inj H
      go_enter Tryd.func7, Tryd.ntmps7
      go_wp2_with (first | ((with_reducible refine gate_callee (f := 24) rfl ?_); refine goesL_ (some 7) rfl rfl Tryd.func24 (by kernel_rfl) rfl #[.string a0] rfl (by (try simp only [List.map_toArray, List.map_cons, List.map_nil]); first | done | rfl | (simp only [List.length_drop, List.length_take]; rfl)) ?_; (with_reducible refine (laws_filter.calls k a0 false _ A3.out).mono ?_); rintro e w18 ⟨rfl, hb⟩; refine ⟨_, rfl, ?_⟩; have n0_ := Aside0.mk (below_step (by repeat (first | (with_reducible first | exact HB.out | apply below_alloc | apply pw_below_drewN | apply below_drew1) | exact HB.out)) hb); clear HB; have HB := n0_; clear n0_; (try clear hb); (try clear hb2); (try clear hk); (try clear hi)) | ((with_reducible refine gate_callee (f := 22) rfl ?_); refine goesL_ (some 9) rfl rfl Tryd.func22 (by kernel_rfl) rfl #[] rfl (by (try simp only [List.map_toArray, List.map_cons, List.map_nil]); first | done | rfl | (simp only [List.length_drop, List.length_take]; rfl)) ?_; (with_reducible refine (laws_awakeTopic.calls  t151 _ A17.out).mono ?_); rintro e w19 ⟨rfl, hb⟩; refine ⟨_, rfl, ?_⟩; have n0_ := Aside0.mk (below_step (by repeat (first | (with_reducible first | exact HB.out | apply below_alloc | apply pw_below_drewN | apply below_drew1) | exact HB.out)) hb); clear HB; have HB := n0_; clear n0_; (try clear hb); (try clear hb2); (try clear hk); (try clear hi)))
      go_ret
      exact ⟨by first | rfl | (simp [errW_none, errW_some] <;> rfl) | (simp [*, errW_none, errW_some] <;> rfl) | (simp [errW_none, errW_some]; generalize ByteArray.toList _ = l_; cases l_ <;> rfl), by repeat (first | (with_reducible first | exact HB.out | apply below_alloc | apply pw_below_drewN | apply below_drew1) | exact HB.out)⟩

/-- THE ONE PURE STATEMENT of laws_FnNeedsUp: yours. -/
def laws_FnNeedsUp.Pure : Prop := ∀ (a0 : ByteArray), a0.size ≤ 140737488351232 → ∃ k, laws_FnNeedsUp.f k a0 = some true
theorem laws_FnNeedsUp.walk (P : laws_FnNeedsUp.Pure) (a0 : ByteArray) (w : World) (w0 : a0.size ≤ 140737488351232) :
    Calls Tryd.prog 7 #[.string a0] w fun e w' => e = .returned (.bool true) ∧ Below w.heap.size w w' := by
  obtain ⟨k, h⟩ := P a0 w0
  refine (laws_FnNeedsUp.calls k a0 true w h).mono ?_
  rintro e w' ⟨rfl, hd⟩
  exact ⟨rfl, hd⟩

end Go.Proofs.YtmfblbjklmgncaaDoor.PFnNeedsUp
