-- Written by hprint.py (this session's program, over the kit's printing program, with this session's own contracts in it). Not trusted: Lean checks it.
import Derived.Test.YtmfblbjklmgncaaPFnHeaderRemovex0
namespace Go.Proofs.Ytmfblbjklmgncaa.PFnHeaderRemove
open Go.RowKit Go.Proofs.YtmfblbjklmgncaaW.PrintWords Go.Proofs.YtmfblbjklmgncaaW.PrintLast Go.Proofs.YtmfblbjklmgncaaW.PrintMore
attribute [local go_sem] max2_int min2_int max_two min_two max_three min_three max_four min_four   -- for this text's walks alone
set_option linter.unusedVariables false
set_option linter.unusedSimpArgs false

/-! ### spec_Without: function 15 -/
def spec_Without.l0 : Nat → List (S37) → ByteArray → Int → Option ((List (S37)))
  | 0, _, _, _ => none
  | k + 1, x0, x1, x5 => if x5 < (x0.length : Int) then (if 0 ≤ x5 then (if ((rd_T37 x0 x5).f0).toList = x1.toList then ((some (([] : List (S37)) : List (S37))).bind fun y154 => (if x5 ≤ (x0.length : Int) then ((some (x0.take (x5 : Int).toNat : List (S37))).bind fun y157 => (if y154.length + y157.length < 4398046511104 then ((some (y154 ++ y157 : List (S37))).bind fun y161 => (if 0 ≤ (wrap64 (x5 + 1)) then (if (wrap64 (x5 + 1)) ≤ (x0.length : Int) then ((some (x0.drop ((wrap64 (x5 + 1)) : Int).toNat : List (S37))).bind fun y164 => (if y161.length + y164.length < 4398046511104 then (some (y161 ++ y164)) else (none))) else (none)) else (none))) else (none))) else (none))) else (spec_Without.l0 k x0 x1 (wrap64 (x5 + 1)))) else (none)) else (some x0)
def spec_Without.f (k : Nat) (l0 : List (S37)) (a1 : ByteArray) : Option ((List (S37))) := spec_Without.l0 k l0 a1 0
theorem spec_Without.mono_l : ∀ k, (∀ y0 y1 y2, LeO (spec_Without.l0 k y0 y1 y2) (spec_Without.l0 (k + 1) y0 y1 y2))
  | 0 => fun _ _ _ r h => by simp [spec_Without.l0] at h
  | k + 1 => by
    have ih0 := spec_Without.mono_l k
    · intro y0 y1 y2
      unfold spec_Without.l0
      repeat' first
      | (with_reducible exact ih0 _ _ _)
      | (with_reducible exact LeO.refl _)
      | (with_reducible exact LeO.none _)
      | (with_reducible refine LeO.ite ?_ ?_)
      | (with_reducible refine LeO.bind ?_ (fun _ => ?_))
      | exact ih0 _ _ _
      | exact LeO.none _
      | refine LeO.ite ?_ ?_
      | refine LeO.bind ?_ (fun _ => ?_)
theorem spec_Without.mono : ∀ a0 a1 k, LeO (spec_Without.f k a0 a1) (spec_Without.f (k + 1) a0 a1) := by
  intro a0 a1 k
  have ih0 := spec_Without.mono_l k
  unfold spec_Without.f
  repeat' first
      | (with_reducible exact ih0 _ _ _)
      | (with_reducible exact LeO.refl _)
      | (with_reducible exact LeO.none _)
      | (with_reducible refine LeO.ite ?_ ?_)
      | (with_reducible refine LeO.bind ?_ (fun _ => ?_))
      | exact ih0 _ _ _
      | exact LeO.none _
      | refine LeO.ite ?_ ?_
      | refine LeO.bind ?_ (fun _ => ?_)
def spec_Without.T5 : Bool × List (List Nat × List Nat) := (true, [([], []), ([], []), ([], []), ([1, 2], [1, 2]), ([0, 3], [0, 3]), ([], []), ([], []), ([6], [6]), ([5, 7], [5, 7]), ([4, 8, 4], [4, 8]), ([9, 9, 0, 1, 2, 3, 4, 5, 6, 7, 8, 9], [9])])
def spec_Without.B5 : List Nat := [0, 0, 0, 6, 15, 0, 0, 64, 224, 511, 1023]
theorem spec_Without.tab5 : rtab .any (opsOf Try.f15 5) = spec_Without.T5 := by kernel_rfl
theorem spec_Without.bits5 : waitsOk spec_Without.T5.2 spec_Without.B5 = true := by kernel_rfl
set_option maxHeartbeats 8000000 in
set_option maxRecDepth 100000 in
theorem spec_Without.calls (k : Nat) (P0_ : Nat → Prop) (u9000_ : Value) (l0 : List (S37)) (a1 : ByteArray) (r : List (S37)) (w0 w : World) (hB : Below w0.heap.size w0 w) (ho0 : Kd.R k37 37 w w0.heap.size P0_ u9000_ l0) (h : spec_Without.f k l0 a1 = some r) :
    Calls Try.prog 15 #[u9000_, .string a1] w fun e w' => ∃ v0_ : Value, e = .returned (v0_) ∧ Kd.R k37 37 w' w0.heap.size (fun k_ => (P0_ k_ ∨ w.heap.size ≤ k_)) v0_ r ∧ Below w0.heap.size w0 w' ∧ Kept w w' (fun k_ => P0_ k_) := by
  have HO0 := Aside0.mk (show Kd.R k37 37 w w0.heap.size (fun k_ => (P0_ k_ ∨ w.heap.size ≤ k_)) u9000_ l0 from Kd.R_mono ho0 (fun k_ hk => (.inl hk)))
  have HK := Aside0.mk (Kept.refl w (fun k_ => P0_ k_))
  have HW0 := Aside0.mk hB.size
  have HB := Aside0.mk hB
  clear hB
  have H : (spec_Without.l0 k l0 a1 0) = some r := h
  clear h
  have H' := Aside0.mk H
  clear H
  go_enter Try.func15, Try.ntmps15
  go_wp2
  go_loopg [5] k (fun kq v5 w' => ∃ (x5_1 : Int), v5 = .int .i64 x5_1 ∧ Aside0 (spec_Without.l0 kq l0 a1 x5_1 = some r) ∧ Aside0 (kq ≤ k) ∧ Aside0 (Kd.R k37 37 w' w0.heap.size (fun k_ => (P0_ k_ ∨ w.heap.size ≤ k_)) u9000_ l0) ∧ Aside0 (Kept w w' (fun k_ => P0_ k_)) ∧ Aside0 (Below w0.heap.size w0 w'))
  case atStart => exact ⟨(0), (by first | rfl | (simp; done) | (simp [*]; done)), H', ⟨Nat.le_refl _⟩, ⟨by (with_reducible repeat (first | apply Kd.R_alloc | apply Kd.R_drewN | apply Kd.R_drew)); exact HO0.out⟩, ⟨by repeat (first | (with_reducible first | exact HK.out | apply Kept.alloc | apply Kept.drewN | apply Kept.drew) | exact HK.out)⟩, ⟨by repeat (first | (with_reducible first | exact HB.out | apply below_alloc | apply pw_below_drewN | apply below_drew1) | exact HB.out)⟩⟩
  case round =>
    clear H'
    try clear c1
    try clear p2
    obtain ⟨x5_1, rfl, HA, HK1, HO_0, HK, HB⟩ := hrel
    cases gk with
    | zero => exact absurd HA.out (by simp [spec_Without.l0])
    | succ k1 =>
      have H := HA.out
      clear HA
      simp only [spec_Without.l0] at H
      by_cases c3 : x5_1 < (l0.length : Int)
      · rw [if_pos c3] at H
        have c3b0 : decide (x5_1 < (l0.length : Int)) = true := decide_eq_true c3
        clear c3
        by_cases c4 : 0 ≤ x5_1
        · rw [if_pos c4] at H
          have c4b0 : decide (0 ≤ x5_1) = true := decide_eq_true c4
          clear c4
          by_cases c5 : ((rd_T37 l0 x5_1).f0).toList = a1.toList
          · rw [if_pos c5] at H
            have c5b0 : (((rd_T37 l0 x5_1).f0).toList == a1.toList) = true := beq_iff_eq.mpr c5
            have c5b1 : (((rd_T37 l0 x5_1).f0).toList != a1.toList) = false := bne_eq_false_iff_eq.mpr c5
            clear c5
            obtain ⟨y154, hy154⟩ : ∃ y_ : List (S37), y_ = (([] : List (S37))) := ⟨_, rfl⟩
            replace H : (if x5_1 ≤ (l0.length : Int) then ((some (l0.take (x5_1 : Int).toNat : List (S37))).bind fun y157 => (if y154.length + y157.length < 4398046511104 then ((some (y154 ++ y157 : List (S37))).bind fun y161 => (if 0 ≤ (wrap64 (x5_1 + 1)) then (if (wrap64 (x5_1 + 1)) ≤ (l0.length : Int) then ((some (l0.drop ((wrap64 (x5_1 + 1)) : Int).toNat : List (S37))).bind fun y164 => (if y161.length + y164.length < 4398046511104 then (some (y161 ++ y164)) else (none))) else (none)) else (none))) else (none))) else (none)) = some r := by first | (rw [hy154]; with_reducible exact H) | (have H2_ := (Option.bind_some _ _).symm.trans H; rw [hy154]; with_reducible exact H2_) | (have H2_ := (Option.bind_some _ _).symm.trans H; with_reducible exact H2_) | with_reducible exact H | (rw [hy154]; exact H) | exact H
            have Ny154 := Aside0.mk hy154
            clear hy154
            have c6b0 := eq_true (of_decide_eq_true (by first | (with_reducible assumption) | assumption) : 0 ≤ x5_1)
            by_cases c7 : x5_1 ≤ (l0.length : Int)
            · rw [if_pos c7] at H
              have c7b0 := eq_true c7
              have c7b1 : decide (x5_1 ≤ (l0.length : Int)) = true := decide_eq_true c7
              clear c7
              obtain ⟨y157, hy157⟩ : ∃ y_ : List (S37), y_ = (l0.take (x5_1 : Int).toNat) := ⟨_, rfl⟩
              replace H : (if y154.length + y157.length < 4398046511104 then ((some (y154 ++ y157 : List (S37))).bind fun y161 => (if 0 ≤ (wrap64 (x5_1 + 1)) then (if (wrap64 (x5_1 + 1)) ≤ (l0.length : Int) then ((some (l0.drop ((wrap64 (x5_1 + 1)) : Int).toNat : List (S37))).bind fun y164 => (if y161.length + y164.length < 4398046511104 then (some (y161 ++ y164)) else (none))) else (none)) else (none))) else (none)) = some r := by first | (rw [hy157]; with_reducible exact H) | (have H2_ := (Option.bind_some _ _).symm.trans H; rw [hy157]; with_reducible exact H2_) | (have H2_ := (Option.bind_some _ _).symm.trans H; with_reducible exact H2_) | with_reducible exact H | (rw [hy157]; exact H) | exact H
              have Ny157 := Aside0.mk hy157
              clear hy157
              by_cases c8 : y154.length + y157.length < 4398046511104
              · rw [if_pos c8] at H
                have LMc8 := Aside0.mk c8
                clear c8
                obtain ⟨y161, hy161⟩ : ∃ y_ : List (S37), y_ = (y154 ++ y157) := ⟨_, rfl⟩
                replace H : (if 0 ≤ (wrap64 (x5_1 + 1)) then (if (wrap64 (x5_1 + 1)) ≤ (l0.length : Int) then ((some (l0.drop ((wrap64 (x5_1 + 1)) : Int).toNat : List (S37))).bind fun y164 => (if y161.length + y164.length < 4398046511104 then (some (y161 ++ y164)) else (none))) else (none)) else (none)) = some r := by first | (rw [hy161]; with_reducible exact H) | (have H2_ := (Option.bind_some _ _).symm.trans H; rw [hy161]; with_reducible exact H2_) | (have H2_ := (Option.bind_some _ _).symm.trans H; with_reducible exact H2_) | with_reducible exact H | (rw [hy161]; exact H) | exact H
                have Ny161 := Aside0.mk hy161
                clear hy161
                obtain ⟨ji9, hji9⟩ : ∃ j_ : Int, (wrap64 (x5_1 + 1)) = j_ := ⟨_, rfl⟩
                replace H : (if 0 ≤ (ji9) then (if (ji9) ≤ (l0.length : Int) then ((some (l0.drop ((ji9) : Int).toNat : List (S37))).bind fun y164 => (if y161.length + y164.length < 4398046511104 then (some (y161 ++ y164)) else (none))) else (none)) else (none)) = some r := by first | (rw [hji9] at H; exact H) | (simp only [hji9] at H ⊢; exact H)
                have hji9w : (IntKind.i64.wrap (x5_1 + 1)) = ji9 := (i64_w _).trans hji9
                by_cases c10 : 0 ≤ (ji9)
                · rw [if_pos c10] at H
                  have c10b0 := eq_true c10
                  have c10b1 : decide (0 ≤ (ji9)) = true := decide_eq_true c10
                  clear c10
                  by_cases c11 : (ji9) ≤ (l0.length : Int)
                  · rw [if_pos c11] at H
                    have c11b0 := eq_true c11
                    have c11b1 : decide ((ji9) ≤ (l0.length : Int)) = true := decide_eq_true c11
                    clear c11
                    obtain ⟨y164, hy164⟩ : ∃ y_ : List (S37), y_ = (l0.drop ((ji9) : Int).toNat) := ⟨_, rfl⟩
                    replace H : (if y161.length + y164.length < 4398046511104 then (some (y161 ++ y164)) else (none)) = some r := by first | (rw [hy164]; with_reducible exact H) | (have H2_ := (Option.bind_some _ _).symm.trans H; rw [hy164]; with_reducible exact H2_) | (have H2_ := (Option.bind_some _ _).symm.trans H; with_reducible exact H2_) | with_reducible exact H | (rw [hy164]; exact H) | exact H
                    have Ny164 := Aside0.mk hy164
                    clear hy164
                    by_cases c12 : y161.length + y164.length < 4398046511104
                    · rw [if_pos c12] at H
                      have LMc12 := Aside0.mk c12
                      clear c12
                      obtain ⟨y168, hy168⟩ : ∃ y_ : List (S37), y_ = (y161 ++ y164) := ⟨_, rfl⟩
                      replace H : (some y168) = some r := by first | (rw [hy168]; with_reducible exact H) | (have H2_ := (Option.bind_some _ _).symm.trans H; rw [hy168]; with_reducible exact H2_) | (have H2_ := (Option.bind_some _ _).symm.trans H; with_reducible exact H2_) | with_reducible exact H | (rw [hy168]; exact H) | exact H
                      have Ny168 := Aside0.mk hy168
                      clear hy168
                      obtain rfl := Option.some.inj H
                      obtain ⟨Ao13, co13, eo13⟩ := Kd.R_slice HO_0.out
                      subst eo13
                      have p153 : 0 ≤ (x5_1 : Int) := of_decide_eq_true (by first | (with_reducible assumption) | assumption)
                      have q153 : x5_1 < (l0.length : Int) := of_decide_eq_true (by first | (with_reducible assumption) | assumption)
                      obtain ⟨ad153, e153, hx153_0, hx153_1⟩ := at_T37 (Kd.R_reads' HO_0.out).2.2 x5_1 p153 q153
                      cases e153
                      replace p153 := eq_true p153
                      replace q153 := eq_true q153
                      try go_wp2
                      have n0_ := Aside0.mk (Kd.R_drew HO_0.out)
                      have n1_ := Aside0.mk (Kept.drew HK.out)
                      have n2_ := Aside0.mk (below_drew1 HB.out)
                      clear HO_0
                      clear HK
                      clear HB
                      have HO_0 := n0_
                      have HK := n1_
                      have HB := n2_
                      clear n0_ n1_ n2_
                      have q15 : (x5_1 : Int) ≤ ((l0.length : Int) : Int) := of_decide_eq_true (by first | (with_reducible assumption) | assumption)
                      obtain ⟨i015, hi015, _, hsz15, _⟩ := info_parts info37
                      have hroom15 : l0.length ≤ co13 := (Kd.R_reads' HO_0.out).2.1
                      have hC15 : Kd.C k37 _ (some ad153) l0.length l0 := (Kd.R_reads' HO_0.out).2.2
                      have hcut15 := cut_to (P := Try.prog) 22 37 .i64 Try.underlying22 hi015 (some ad153) l0.length co13 x5_1 (of_decide_eq_true (by first | (with_reducible assumption) | assumption)) q15 hroom15
                      have hr15 := Kd.C_take (m := (x5_1 : Int).toNat) hC15 (by omega)
                      have hy15 : y157.length = (x5_1 : Int).toNat := (by rw [Ny157.out, List.length_take]; omega)
                      rw [← Ny157.out] at hr15
                      rw [← hy15] at hcut15
                      have HR160 := Aside0.mk hr15
                      have HC160 := Aside0.mk (show y157.length ≤ co13 from by omega)
                      clear hr15 hC15 hroom15 hi015 hsz15
                      have KY15 := Aside0.mk hy15
                      clear hy15
                      have KL15 := Aside0.mk (show (x5_1 : Int).toNat ≤ l0.length from by omega)
                      replace q15 := eq_true q15
                      have q16 : ((ji9) : Int) ≤ ((l0.length : Int) : Int) := of_decide_eq_true (by first | (with_reducible assumption) | assumption)
                      obtain ⟨i016, hi016, _, hsz16, _⟩ := info_parts info37
                      have hroom16 : l0.length ≤ co13 := (Kd.R_reads' HO_0.out).2.1
                      have hC16 : Kd.C k37 _ (some ad153) l0.length l0 := (Kd.R_reads' HO_0.out).2.2
                      have q016 : (0 : Int) ≤ ((ji9) : Int) := of_decide_eq_true (by first | (with_reducible assumption) | assumption)
                      have hcut16 := cut_from (P := Try.prog) 22 37 .i64 Try.underlying22 hi016 2 hsz16 (some ad153) l0.length co13 (ji9) q016 q16
                      have hr16 := Kd.C_drop (m := ((ji9) : Int).toNat) (c := co13) hC16 (by omega) hroom16
                      obtain ⟨A16, hA16⟩ : ∃ A1, A1 = (if co13 = ((ji9) : Int).toNat then (some ad153) else ((some ad153) : Option Addr).map (·.add (((ji9) : Int).toNat * 2))) := ⟨_, rfl⟩
                      obtain ⟨c16, hc16⟩ : ∃ c1, c1 = co13 - ((ji9) : Int).toNat := ⟨_, rfl⟩
                      have hy16 : y164.length = l0.length - ((ji9) : Int).toNat := (by rw [Ny164.out, List.length_drop] <;> omega)
                      rw [show (l0).drop ((ji9) : Int).toNat = y164 from Ny164.out.symm] at hr16
                      replace hr16 : Kd.C k37 _ A16 y164.length y164 := (by rw [hA16]; exact hr16)
                      rw [← hy16, ← hA16, ← hc16] at hcut16
                      have HR167 := Aside0.mk hr16
                      have HC167 := Aside0.mk (show y164.length ≤ c16 from by rw [hy16, hc16]; exact Nat.sub_le_sub_right hroom16 _)
                      clear hr16 hC16 hroom16 hi016 hsz16 hc16
                      have KY16 := Aside0.mk hy16
                      have KA16 := Aside0.mk hA16
                      clear hy16 hA16
                      have KL16 := Aside0.mk (show ((ji9) : Int).toNat ≤ l0.length from by omega)
                      replace q16 := eq_true q16
                      refine start_ (n := 11) (S := fun w' => True) (ds := []) #[false, false, false, false, false, false, false, false, false, false, false] (by kernel_rfl) rfl rfl trivial (fun hHeld => ?_); refine with_tabW spec_Without.tab5 spec_Without.bits5 (fun HT_ HW_ => ?_)
                      generalize wr.drew = w14 at HO_0 HK HB HR160 HR167 hHeld ⊢
                      refine pure_ (i := 1) (N := some 20) (v := ?_) (a' := ?_) #[false, true, false, false, false, false, false, false, false, false, false] rfl rfl (any_of HT_.out (by kernel_rfl)) (fun _ _ _ h => h) (Or.inl ⟨by rfl, ?_⟩) ?_ ?_
                      rotate_left
                      · intro w'
                        go_simp
                        with_reducible rfl
                      rotate_left
                      · simp only [Act.put, List.setIfInBounds_toArray, List.set_cons_zero, List.set_cons_succ, i64_w, i32_w]
                        rfl
                      refine pure_ (i := 2) (N := some 21) (v := ?_) (a' := ?_) #[false, true, true, false, false, false, false, false, false, false, false] rfl rfl (any_of HT_.out (by kernel_rfl)) (fun _ _ _ h => h) (Or.inl ⟨by rfl, ?_⟩) ?_ ?_
                      rotate_left
                      · intro w'
                        go_simp
                        with_reducible rfl
                      rotate_left
                      · simp only [Act.put, List.setIfInBounds_toArray, List.set_cons_zero, List.set_cons_succ, i64_w, i32_w]
                        rfl
                      refine pure_ (i := 3) (N := some 22) (v := ?_) (a' := ?_) #[false, true, true, true, false, false, false, false, false, false, false] rfl rfl (any_of HT_.out (by kernel_rfl)) (fun _ _ _ h => h) (Or.inl ⟨by rfl, ?_⟩) ?_ ?_
                      rotate_left
                      · intro w'
                        go_simp
                        with_reducible rfl
                      rotate_left
                      · simp only [Act.put, List.setIfInBounds_toArray, List.set_cons_zero, List.set_cons_succ, i64_w, i32_w]
                        rfl
                      refine pure_ (i := 5) (N := some 24) (v := ?_) (a' := ?_) #[false, true, true, true, false, true, false, false, false, false, false] rfl rfl (any_of HT_.out (by kernel_rfl)) (fun _ _ _ h => h) (Or.inl ⟨by rfl, ?_⟩) ?_ ?_
                      rotate_left
                      · intro w'
                        go_simp
                        with_reducible rfl
                      rotate_left
                      · simp only [Act.put, List.setIfInBounds_toArray, List.set_cons_zero, List.set_cons_succ, i64_w, i32_w]
                        rfl
                      refine pure_ (i := 6) (N := some 25) (v := ?_) (a' := ?_) #[false, true, true, true, false, true, true, false, false, false, false] rfl rfl (any_of HT_.out (by kernel_rfl)) (fun _ _ _ h => h) (Or.inl ⟨by rfl, ?_⟩) ?_ ?_
                      rotate_left
                      · intro w'
                        go_simp
                        with_reducible rfl
                      rotate_left
                      · simp only [Act.put, List.setIfInBounds_toArray, List.set_cons_zero, List.set_cons_succ, i64_w, i32_w]
                        rfl
                      refine pure_ (i := 7) (N := some 26) (v := ?_) (a' := ?_) #[false, true, true, true, false, true, true, true, false, false, false] rfl rfl (any_of HT_.out (by kernel_rfl)) (fun _ _ _ h => h) (Or.inl ⟨by rfl, ?_⟩) ?_ ?_
                      rotate_left
                      · intro w'
                        go_simp
                        with_reducible rfl
                      rotate_left
                      · simp only [Act.put, List.setIfInBounds_toArray, List.set_cons_zero, List.set_cons_succ, i64_w, i32_w]
                        rfl
                      refine pure_ (i := 8) (N := some 27) (v := ?_) (a' := ?_) #[false, true, true, true, false, true, true, true, true, false, false] rfl rfl (any_of HT_.out (by kernel_rfl)) (fun _ _ _ h => h) (Or.inl ⟨by rfl, ?_⟩) ?_ ?_
                      rotate_left
                      · intro w'
                        go_simp
                        with_reducible rfl
                      rotate_left
                      · simp only [Act.put, List.setIfInBounds_toArray, List.set_cons_zero, List.set_cons_succ, i64_w, i32_w]
                        rfl
                      refine one_ (i := 0) (N := some 19) #[true, true, true, true, false, true, true, true, true, false, false] rfl rfl (one_of HT_.out (by kernel_rfl)) (by decide) (fun K hK => ?_)
                      refine Kd.R_lit_step k37 _ 37 ?hg (N := 19) ?hd (xs := ([] : List (S37))) (inner := []) (ok := fun _ => True) (okp := fun _ => True) ?hr ?hp (fun _ hk => hk) trivial (Below.refl _ _) (Nat.le_refl _) (by simp) ?_; (case hd => rfl); (case hg => rfl); (case hr => first | (go_simp; done) | (go_simp; rfl)); (case hp => exact (Reps.none _ _))
                      intro v155 w17 ho18 hb hg_ hnew_
                      clear hg_ hnew_
                      (first | rw [← Ny154.out] at ho18 | (simp only [Int.reduceToNat] at ho18; rw [← Ny154.out] at ho18))
                      have n0_ := Aside0.mk (Kd.R_elder' (by (with_reducible repeat (first | apply Kd.R_alloc | apply Kd.R_drewN | apply Kd.R_drew)); exact HO_0.out) (Kd.R_base ho18) hb)
                      have n1_ := Aside0.mk (Kd.R_lower (Kd.R_new' (Kd.R_newM (M := fun k_ => (P0_ k_ ∨ w.heap.size ≤ k_)) ho18 (by first | exact HK.out.1 | exact (show Kept w _ (fun k_ => P0_ k_) from by repeat (first | (with_reducible first | exact HK.out | apply Kept.alloc | apply Kept.drewN | apply Kept.drew) | exact HK.out)).1) (fun k_ h_ => .inr h_)) (Kd.R_lt (by (with_reducible repeat (first | apply Kd.R_alloc | apply Kd.R_drewN | apply Kd.R_drew)); exact HO_0.out))) (below_size (by repeat (first | (with_reducible first | exact HB.out | apply below_alloc | apply pw_below_drewN | apply below_drew1) | exact HB.out))))
                      have n2_ := Aside0.mk (Kd.C_below (by repeat (first | (with_reducible exact HR160.out) | (with_reducible refine Kd.C_alloc ?_ _) | (with_reducible refine Kd.C_drewN ?_ _) | (with_reducible refine Kd.C_drew ?_) | exact HR160.out)) hb)
                      have n3_ := Aside0.mk (Kd.C_below (by repeat (first | (with_reducible exact HR167.out) | (with_reducible refine Kd.C_alloc ?_ _) | (with_reducible refine Kd.C_drewN ?_ _) | (with_reducible refine Kd.C_drew ?_) | exact HR167.out)) hb)
                      have n4_ := Aside0.mk (Kept.below (S := (fun k_ => P0_ k_)) (by repeat (first | (with_reducible first | exact HK.out | apply Kept.alloc | apply Kept.drewN | apply Kept.drew) | exact HK.out)) hb)
                      have n5_ := Aside0.mk (below_step (by repeat (first | (with_reducible first | exact HB.out | apply below_alloc | apply pw_below_drewN | apply below_drew1) | exact HB.out)) hb)
                      clear HO_0
                      clear HR160
                      clear HR167
                      clear HK
                      clear HB
                      have HO_0 := n0_
                      have HO156 := n1_
                      have HR160 := n2_
                      have HR167 := n3_
                      have HK := n4_
                      have HB := n5_
                      clear n0_ n1_ n2_ n3_ n4_ n5_
                      clear hb ho18
                      refine hK.out _ _ trivial (fun hHeld => ?_)
                      clear hK K
                      refine norm_ (a' := ?_) ?_ ?_
                      rotate_left
                      · show Act.put _ (some 19) _ = _
                        simp only [Act.put, List.setIfInBounds_toArray, List.set_cons_zero, List.set_cons_succ, i64_w, i32_w]
                        rfl
                      refine one_ (i := 4) (N := some 23) #[true, true, true, true, true, true, true, true, true, false, false] rfl rfl (one_of HT_.out (by kernel_rfl)) (by decide) (fun K hK => ?_)
                      refine Kd.R_append_rows_step k37 (w0 := w0) w0.heap.size (by rfl) (.tmp 19) (.tmp 22) 22 37 (.agg #[(.string ⟨#[]⟩), (.string ⟨#[]⟩)]) 32 rfl Try.underlying22 info37 rfl (by decide) (by omega) v155 y154 y157 _ _ _ (fun k_ => (P0_ k_ ∨ w.heap.size ≤ k_) ∧ some k_ ≠ (.slice (some ad153) l0.length co13 : Value).ownBlock) (fun _ => False) rfl rfl ?aO ?aR (fun _ _ h => h) (fun _ h => h.elim) ?aF ?aB ?aS ?aL ?_
                      (case aR => repeat (first | exact (by repeat (first | (with_reducible exact HR160.out) | (with_reducible refine Kd.C_alloc ?_ _) | (with_reducible refine Kd.C_drewN ?_ _) | (with_reducible refine Kd.C_drew ?_) | exact HR160.out)) | (with_reducible refine Kd.C_alloc ?_ _) | (with_reducible refine Kd.C_drewN ?_ _) | (with_reducible refine Kd.C_drew ?_)))
                      (case aB => exact (by repeat (first | (with_reducible first | exact HB.out | apply below_alloc | apply pw_below_drewN | apply below_drew1) | exact HB.out)))
                      (case aF => exact (fun k_ hk => ⟨(.inr (Nat.le_trans (by first | exact HK.out.1 | exact (show Kept w _ (fun k_ => P0_ k_) from by repeat (first | (with_reducible first | exact HK.out | apply Kept.alloc | apply Kept.drewN | apply Kept.drew) | exact HK.out)).1) hk)), Kd.fresh' (Kd.R_lt (by (with_reducible repeat (first | apply Kd.R_alloc | apply Kd.R_drewN | apply Kd.R_drew)); exact HO_0.out)) k_ hk⟩))
                      (case aO => exact (by (with_reducible repeat (first | apply Kd.R_alloc | apply Kd.R_drewN | apply Kd.R_drew)); exact Kd.R_mono HO156.out (fun _ hk => ⟨hk.1.1, hk.2⟩)))
                      (case aS => exact (below_size (by repeat (first | (with_reducible first | exact HB.out | apply below_alloc | apply pw_below_drewN | apply below_drew1) | exact HB.out))))
                      (case aL => have := LMc8.out; omega)
                      intro v162 w19 ho hb hg hat
                      rw [← Ny161.out] at ho
                      have n0_ := Aside0.mk (Kd.R_after (ok := (fun k_ => (P0_ k_ ∨ w.heap.size ≤ k_))) (by (with_reducible repeat (first | apply Kd.R_alloc | apply Kd.R_drewN | apply Kd.R_drew)); exact HO_0.out) hg hat)
                      have n1_ := Aside0.mk (hb)
                      have n2_ := Aside0.mk (Kept.of_grown (S := (fun k_ => P0_ k_)) hg (by repeat (first | (with_reducible first | exact HK.out | apply Kept.alloc | apply Kept.drewN | apply Kept.drew) | exact HK.out)) (fun k_ e_ => (HO156.out.1 k_ e_).1.1))
                      have n3_ := Aside0.mk ((show Kd.C k37 w19 (some ad153) y157.length y157 from by rw [Ny157.out]; exact Kd.C_take (m := (x5_1 : Int).toNat) ((Kd.R_reads' (Kd.R_after (ok := (fun k_ => (P0_ k_ ∨ w.heap.size ≤ k_))) (by (with_reducible repeat (first | apply Kd.R_alloc | apply Kd.R_drewN | apply Kd.R_drew)); exact HO_0.out) hg hat)).2.2) KL15.out))
                      have n4_ := Aside0.mk ((show Kd.C k37 w19 A16 y164.length y164 from by rw [Ny164.out, KA16.out]; exact Kd.C_drop (m := ((ji9) : Int).toNat) (c := co13) ((Kd.R_reads' (Kd.R_after (ok := (fun k_ => (P0_ k_ ∨ w.heap.size ≤ k_))) (by (with_reducible repeat (first | apply Kd.R_alloc | apply Kd.R_drewN | apply Kd.R_drew)); exact HO_0.out) hg hat)).2.2) KL16.out ((Kd.R_reads' (Kd.R_after (ok := (fun k_ => (P0_ k_ ∨ w.heap.size ≤ k_))) (by (with_reducible repeat (first | apply Kd.R_alloc | apply Kd.R_drewN | apply Kd.R_drew)); exact HO_0.out) hg hat)).2.1)))
                      have n5_ := Aside0.mk (ho)
                      clear HO_0
                      clear HB
                      clear HK
                      clear HR160
                      clear HR167
                      clear HO156
                      have HO_0 := n0_
                      have HB := n1_
                      have HK := n2_
                      have HR160 := n3_
                      have HR167 := n4_
                      have HO163 := n5_
                      clear n0_ n1_ n2_ n3_ n4_ n5_
                      clear ho hb hg hat
                      refine hK.out _ _ trivial (fun hHeld => ?_)
                      clear hK K
                      refine norm_ (a' := ?_) ?_ ?_
                      rotate_left
                      · show Act.put _ (some 23) _ = _
                        simp only [Act.put, List.setIfInBounds_toArray, List.set_cons_zero, List.set_cons_succ, i64_w, i32_w]
                        rfl
                      refine one_ (i := 9) (N := some 28) #[true, true, true, true, true, true, true, true, true, true, false] rfl rfl (one_of HT_.out (by kernel_rfl)) (by decide) (fun K hK => ?_)
                      refine Kd.R_append_rows_step k37 (w0 := w0) w0.heap.size (by rfl) (.tmp 23) (.tmp 27) 22 37 (.agg #[(.string ⟨#[]⟩), (.string ⟨#[]⟩)]) 32 rfl Try.underlying22 info37 rfl (by decide) (by omega) v162 y161 y164 _ _ _ (fun k_ => (P0_ k_ ∨ w.heap.size ≤ k_) ∧ some k_ ≠ (.slice (some ad153) l0.length co13 : Value).ownBlock) (fun _ => False) rfl rfl ?aO ?aR (fun _ _ h => h) (fun _ h => h.elim) ?aF ?aB ?aS ?aL ?_
                      (case aR => repeat (first | exact (by repeat (first | (with_reducible exact HR167.out) | (with_reducible refine Kd.C_alloc ?_ _) | (with_reducible refine Kd.C_drewN ?_ _) | (with_reducible refine Kd.C_drew ?_) | exact HR167.out)) | (with_reducible refine Kd.C_alloc ?_ _) | (with_reducible refine Kd.C_drewN ?_ _) | (with_reducible refine Kd.C_drew ?_)))
                      (case aB => exact (by repeat (first | (with_reducible first | exact HB.out | apply below_alloc | apply pw_below_drewN | apply below_drew1) | exact HB.out)))
                      (case aF => exact (fun k_ hk => ⟨(.inr (Nat.le_trans (by first | exact HK.out.1 | exact (show Kept w _ (fun k_ => P0_ k_) from by repeat (first | (with_reducible first | exact HK.out | apply Kept.alloc | apply Kept.drewN | apply Kept.drew) | exact HK.out)).1) hk)), Kd.fresh' (Kd.R_lt (by (with_reducible repeat (first | apply Kd.R_alloc | apply Kd.R_drewN | apply Kd.R_drew)); exact HO_0.out)) k_ hk⟩))
                      (case aO => exact (by (with_reducible repeat (first | apply Kd.R_alloc | apply Kd.R_drewN | apply Kd.R_drew)); exact HO163.out))
                      (case aS => exact (below_size (by repeat (first | (with_reducible first | exact HB.out | apply below_alloc | apply pw_below_drewN | apply below_drew1) | exact HB.out))))
                      (case aL => have := LMc12.out; omega)
                      intro v169 w20 ho hb hg hat
                      rw [← Ny168.out] at ho
                      have n0_ := Aside0.mk (Kd.R_after (ok := (fun k_ => (P0_ k_ ∨ w.heap.size ≤ k_))) (by (with_reducible repeat (first | apply Kd.R_alloc | apply Kd.R_drewN | apply Kd.R_drew)); exact HO_0.out) hg hat)
                      have n1_ := Aside0.mk (hb)
                      have n2_ := Aside0.mk (Kept.of_grown (S := (fun k_ => P0_ k_)) hg (by repeat (first | (with_reducible first | exact HK.out | apply Kept.alloc | apply Kept.drewN | apply Kept.drew) | exact HK.out)) (fun k_ e_ => (HO163.out.1 k_ e_).1))
                      have n3_ := Aside0.mk ((show Kd.C k37 w20 (some ad153) y157.length y157 from by rw [Ny157.out]; exact Kd.C_take (m := (x5_1 : Int).toNat) ((Kd.R_reads' (Kd.R_after (ok := (fun k_ => (P0_ k_ ∨ w.heap.size ≤ k_))) (by (with_reducible repeat (first | apply Kd.R_alloc | apply Kd.R_drewN | apply Kd.R_drew)); exact HO_0.out) hg hat)).2.2) KL15.out))
                      have n4_ := Aside0.mk ((show Kd.C k37 w20 A16 y164.length y164 from by rw [Ny164.out, KA16.out]; exact Kd.C_drop (m := ((ji9) : Int).toNat) (c := co13) ((Kd.R_reads' (Kd.R_after (ok := (fun k_ => (P0_ k_ ∨ w.heap.size ≤ k_))) (by (with_reducible repeat (first | apply Kd.R_alloc | apply Kd.R_drewN | apply Kd.R_drew)); exact HO_0.out) hg hat)).2.2) KL16.out ((Kd.R_reads' (Kd.R_after (ok := (fun k_ => (P0_ k_ ∨ w.heap.size ≤ k_))) (by (with_reducible repeat (first | apply Kd.R_alloc | apply Kd.R_drewN | apply Kd.R_drew)); exact HO_0.out) hg hat)).2.1)))
                      have n5_ := Aside0.mk (ho)
                      clear HO_0
                      clear HB
                      clear HK
                      clear HR160
                      clear HR167
                      clear HO163
                      have HO_0 := n0_
                      have HB := n1_
                      have HK := n2_
                      have HR160 := n3_
                      have HR167 := n4_
                      have HO170 := n5_
                      clear n0_ n1_ n2_ n3_ n4_ n5_
                      clear ho hb hg hat
                      refine hK.out _ _ trivial (fun hHeld => ?_)
                      clear hK K
                      refine norm_ (a' := ?_) ?_ ?_
                      rotate_left
                      · show Act.put _ (some 28) _ = _
                        simp only [Act.put, List.setIfInBounds_toArray, List.set_cons_zero, List.set_cons_succ, i64_w, i32_w]
                        rfl
                      refine pure_ (i := 10) (N := some 4) (v := ?_) (a' := ?_) #[true, true, true, true, true, true, true, true, true, true, true] rfl rfl (any_of HT_.out (by kernel_rfl)) (fun _ _ _ h => h) (Or.inl ⟨by rfl, ?_⟩) ?_ ?_
                      rotate_left
                      · intro w'
                        go_simp
                        with_reducible rfl
                      rotate_left
                      · simp only [Act.put, List.setIfInBounds_toArray, List.set_cons_zero, List.set_cons_succ, i64_w, i32_w]
                        rfl
                      refine done_ (done_of HT_.out (by kernel_rfl)) ?_
                      try go_wp2
                      go_ret
                      exact ⟨_, by first | rfl | (simp [errW_none, errW_some] <;> rfl) | (simp only [← hji9]; first | rfl | (simp [errW_none, errW_some] <;> rfl)) | (simp [*, errW_none, errW_some] <;> rfl), by (with_reducible repeat (first | apply Kd.R_alloc | apply Kd.R_drewN | apply Kd.R_drew)); exact Kd.R_mono HO170.out (fun _ hk => hk.1), by repeat (first | (with_reducible first | exact HB.out | apply below_alloc | apply pw_below_drewN | apply below_drew1) | exact HB.out), by repeat (first | (with_reducible first | exact HK.out | apply Kept.alloc | apply Kept.drewN | apply Kept.drew) | exact HK.out)⟩
                    · rw [if_neg c12] at H
                      exact absurd H (by simp)
                  · rw [if_neg c11] at H
                    exact absurd H (by simp)
                · rw [if_neg c10] at H
                  exact absurd H (by simp)
              · rw [if_neg c8] at H
                exact absurd H (by simp)
            · rw [if_neg c7] at H
              exact absurd H (by simp)
          · rw [if_neg c5] at H
            have c5b0 : (((rd_T37 l0 x5_1).f0).toList == a1.toList) = false := beq_eq_false_iff_ne.mpr c5
            have c5b1 : (((rd_T37 l0 x5_1).f0).toList != a1.toList) = true := bne_iff_ne.mpr c5
            have H' := Aside0.mk H
            clear H
            obtain ⟨Ao21, co21, eo21⟩ := Kd.R_slice HO_0.out
            subst eo21
            have p153 : 0 ≤ (x5_1 : Int) := of_decide_eq_true (by first | (with_reducible assumption) | assumption)
            have q153 : x5_1 < (l0.length : Int) := of_decide_eq_true (by first | (with_reducible assumption) | assumption)
            obtain ⟨ad153, e153, hx153_0, hx153_1⟩ := at_T37 (Kd.R_reads' HO_0.out).2.2 x5_1 p153 q153
            cases e153
            replace p153 := eq_true p153
            replace q153 := eq_true q153
            go_wp2
            go_roundg k1
            case measure => have := HK1.out; omega
            case rel => exact ⟨(wrap64 (x5_1 + 1)), (by first | rfl | (simp; done) | (simp [*]; done)), H', ⟨by have := HK1.out; omega⟩, ⟨by (with_reducible repeat (first | apply Kd.R_alloc | apply Kd.R_drewN | apply Kd.R_drew)); exact HO_0.out⟩, ⟨by repeat (first | (with_reducible first | exact HK.out | apply Kept.alloc | apply Kept.drewN | apply Kept.drew) | exact HK.out)⟩, ⟨by repeat (first | (with_reducible first | exact HB.out | apply below_alloc | apply pw_below_drewN | apply below_drew1) | exact HB.out)⟩⟩
        · rw [if_neg c4] at H
          exact absurd H (by simp)
      · rw [if_neg c3] at H
        have c3b0 : decide (x5_1 < (l0.length : Int)) = false := decide_eq_false c3
        clear c3
        obtain rfl := Option.some.inj H
        obtain ⟨Ao22, co22, eo22⟩ := Kd.R_slice HO_0.out
        subst eo22
        go_wp2
        go_ret
        exact ⟨_, by first | rfl | (simp [errW_none, errW_some] <;> rfl) | (simp [*, errW_none, errW_some] <;> rfl), by (with_reducible repeat (first | apply Kd.R_alloc | apply Kd.R_drewN | apply Kd.R_drew)); exact HO_0.out, by repeat (first | (with_reducible first | exact HB.out | apply below_alloc | apply pw_below_drewN | apply below_drew1) | exact HB.out), by repeat (first | (with_reducible first | exact HK.out | apply Kept.alloc | apply Kept.drewN | apply Kept.drew) | exact HK.out)⟩

end Go.Proofs.Ytmfblbjklmgncaa.PFnHeaderRemove
