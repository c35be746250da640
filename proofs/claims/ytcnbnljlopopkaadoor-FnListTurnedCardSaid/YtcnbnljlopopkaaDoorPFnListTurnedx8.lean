-- Written by hprint.py (this session's program, over the kit's printing program, with this session's own contracts in it). Not trusted: Lean checks it.
import Derived.Test.YtcnbnljlopopkaaDoorPFnListTurnedx0
namespace Go.Proofs.YtcnbnljlopopkaaDoor.PFnListTurned
open Go.RowKit Go.Proofs.YtcnbnljlopopkaaDoorW.PrintWords Go.Proofs.YtcnbnljlopopkaaDoorW.PrintLast Go.Proofs.YtcnbnljlopopkaaDoorW.PrintMore
attribute [local go_sem] max2_int min2_int max_two min_two max_three min_three max_four min_four   -- for this text's walks alone
set_option linter.unusedVariables false
set_option linter.unusedSimpArgs false

/-! ### laws_turned: function 23 -/
def laws_turned.f (l0 : List (S51)) (a1 : Int) : Option ((List (S51))) := (some (([] : List (S51)) : List (S51))).bind fun y195 => (if 0 ≤ a1 then (if a1 ≤ (l0.length : Int) then ((some (l0.drop (a1 : Int).toNat : List (S51))).bind fun y198 => (if y195.length + y198.length < 4398046511104 then ((some (y195 ++ y198 : List (S51))).bind fun y202 => ((some (l0.take (a1 : Int).toNat : List (S51))).bind fun y205 => (if y202.length + y205.length < 4398046511104 then (some (y202 ++ y205)) else (none)))) else (none))) else (none)) else (none))
def laws_turned.T1 : Bool × List (List Nat × List Nat) := (true, [([], []), ([], []), ([], []), ([1, 2], [1, 2]), ([0, 3], [0, 3]), ([], []), ([], []), ([5, 6], [5, 6]), ([4, 7, 4], [4, 7]), ([8, 8, 0, 1, 2, 3, 4, 5, 6, 7, 8], [8])])
def laws_turned.B1 : List Nat := [0, 0, 0, 6, 15, 0, 0, 96, 255, 511]
theorem laws_turned.tab1 : rtab .any (opsOf Tryd.f23 1) = laws_turned.T1 := by kernel_rfl
theorem laws_turned.bits1 : waitsOk laws_turned.T1.2 laws_turned.B1 = true := by kernel_rfl
set_option maxHeartbeats 8000000 in
set_option maxRecDepth 100000 in
theorem laws_turned.calls (A0 : Option Addr) (c0 : Nat) (l0 : List (S51)) (a1 : Int) (r : List (S51)) (w : World) (hr0 : Kd.C k51 w A0 l0.length l0) (hc0 : l0.length ≤ c0) (h : laws_turned.f l0 a1 = some r) :
  Calls Tryd.prog 23 #[.slice A0 l0.length c0, .int .i64 a1] w fun e w' => ∃ v0_ : Value, e = .returned (v0_) ∧ Kd.R k51 51 w' w.heap.size (fun _ => True) v0_ r ∧ Below w.heap.size w w' := by
 have HR0 := Aside0.mk hr0
 have HC0 := Aside0.mk hc0
 clear hr0 hc0
 have HB := Aside0.mk (Below.refl w.heap.size w)
 have H : ((some (([] : List (S51)) : List (S51))).bind fun y195 => (if 0 ≤ a1 then (if a1 ≤ (l0.length : Int) then ((some (l0.drop (a1 : Int).toNat : List (S51))).bind fun y198 => (if y195.length + y198.length < 4398046511104 then ((some (y195 ++ y198 : List (S51))).bind fun y202 => ((some (l0.take (a1 : Int).toNat : List (S51))).bind fun y205 => (if y202.length + y205.length < 4398046511104 then (some (y202 ++ y205)) else (none)))) else (none))) else (none)) else (none))) = some r := h
 clear h
 obtain ⟨y195, hy195⟩ : ∃ y_ : List (S51), y_ = (([] : List (S51))) := ⟨_, rfl⟩
 replace H : (if 0 ≤ a1 then (if a1 ≤ (l0.length : Int) then ((some (l0.drop (a1 : Int).toNat : List (S51))).bind fun y198 => (if y195.length + y198.length < 4398046511104 then ((some (y195 ++ y198 : List (S51))).bind fun y202 => ((some (l0.take (a1 : Int).toNat : List (S51))).bind fun y205 => (if y202.length + y205.length < 4398046511104 then (some (y202 ++ y205)) else (none)))) else (none))) else (none)) else (none)) = some r := by first | (rw [hy195]; with_reducible exact H) | (have H2_ := (Option.bind_some _ _).symm.trans H; rw [hy195]; with_reducible exact H2_) | (have H2_ := (Option.bind_some _ _).symm.trans H; with_reducible exact H2_) | with_reducible exact H | (rw [hy195]; exact H) | exact H
 have Ny195 := Aside0.mk hy195
 clear hy195
 by_cases c3 : 0 ≤ a1
 ·
  rw [if_pos c3] at H
  have c3b0 := eq_true c3
  have c3b1 : decide (0 ≤ a1) = true := decide_eq_true c3
  clear c3
  by_cases c4 : a1 ≤ (l0.length : Int)
  ·
   rw [if_pos c4] at H
   have c4b0 := eq_true c4
   have c4b1 : decide (a1 ≤ (l0.length : Int)) = true := decide_eq_true c4
   clear c4
   obtain ⟨y198, hy198⟩ : ∃ y_ : List (S51), y_ = (l0.drop (a1 : Int).toNat) := ⟨_, rfl⟩
   replace H : (if y195.length + y198.length < 4398046511104 then ((some (y195 ++ y198 : List (S51))).bind fun y202 => ((some (l0.take (a1 : Int).toNat : List (S51))).bind fun y205 => (if y202.length + y205.length < 4398046511104 then (some (y202 ++ y205)) else (none)))) else (none)) = some r := by first | (rw [hy198]; with_reducible exact H) | (have H2_ := (Option.bind_some _ _).symm.trans H; rw [hy198]; with_reducible exact H2_) | (have H2_ := (Option.bind_some _ _).symm.trans H; with_reducible exact H2_) | with_reducible exact H | (rw [hy198]; exact H) | exact H
   have Ny198 := Aside0.mk hy198
   clear hy198
   by_cases c5 : y195.length + y198.length < 4398046511104
   ·
    rw [if_pos c5] at H
    have LMc5 := Aside0.mk c5
    clear c5
    obtain ⟨y202, hy202⟩ : ∃ y_ : List (S51), y_ = (y195 ++ y198) := ⟨_, rfl⟩
    replace H : ((some (l0.take (a1 : Int).toNat : List (S51))).bind fun y205 => (if y202.length + y205.length < 4398046511104 then (some (y202 ++ y205)) else (none))) = some r := by first | (rw [hy202]; with_reducible exact H) | (have H2_ := (Option.bind_some _ _).symm.trans H; rw [hy202]; with_reducible exact H2_) | (have H2_ := (Option.bind_some _ _).symm.trans H; with_reducible exact H2_) | with_reducible exact H | (rw [hy202]; exact H) | exact H
    have Ny202 := Aside0.mk hy202
    clear hy202
    have c6b0 := eq_true (of_decide_eq_true (by first | (with_reducible assumption) | assumption) : 0 ≤ a1)
    have c7b0 := eq_true (of_decide_eq_true (by first | (with_reducible assumption) | assumption) : a1 ≤ (l0.length : Int))
    obtain ⟨y205, hy205⟩ : ∃ y_ : List (S51), y_ = (l0.take (a1 : Int).toNat) := ⟨_, rfl⟩
    replace H : (if y202.length + y205.length < 4398046511104 then (some (y202 ++ y205)) else (none)) = some r := by first | (rw [hy205]; with_reducible exact H) | (have H2_ := (Option.bind_some _ _).symm.trans H; rw [hy205]; with_reducible exact H2_) | (have H2_ := (Option.bind_some _ _).symm.trans H; with_reducible exact H2_) | with_reducible exact H | (rw [hy205]; exact H) | exact H
    have Ny205 := Aside0.mk hy205
    clear hy205
    by_cases c8 : y202.length + y205.length < 4398046511104
    ·
     rw [if_pos c8] at H
     have LMc8 := Aside0.mk c8
     clear c8
     obtain ⟨y209, hy209⟩ : ∃ y_ : List (S51), y_ = (y202 ++ y205) := ⟨_, rfl⟩
     replace H : (some y209) = some r := by first | (rw [hy209]; with_reducible exact H) | (have H2_ := (Option.bind_some _ _).symm.trans H; rw [hy209]; with_reducible exact H2_) | (have H2_ := (Option.bind_some _ _).symm.trans H; with_reducible exact H2_) | with_reducible exact H | (rw [hy209]; exact H) | exact H
     have Ny209 := Aside0.mk hy209
     clear hy209
     obtain rfl := Option.some.inj H
     go_enter Tryd.func23, Tryd.ntmps23
     try go_wp2
     have n0_ := Aside0.mk (below_drew1 HB.out)
     clear HB
     have HB := n0_
     clear n0_
     have q10 : (a1 : Int) ≤ ((l0.length : Int) : Int) := of_decide_eq_true (by first | (with_reducible assumption) | assumption)
     obtain ⟨i010, hi010, _, hsz10, _⟩ := info_parts info51
     have hroom10 : l0.length ≤ c0 := HC0.out
     have hC10 : Kd.C k51 _ A0 l0.length l0 := HR0.out
     have q010 : (0 : Int) ≤ (a1 : Int) := of_decide_eq_true (by first | (with_reducible assumption) | assumption)
     have hcut10 := cut_from (P := Tryd.prog) 22 51 .i64 Tryd.underlying22 hi010 3 hsz10 A0 l0.length c0 a1 q010 q10
     have hr10 := Kd.C_drop (m := (a1 : Int).toNat) (c := c0) hC10 (by omega) hroom10
     obtain ⟨A10, hA10⟩ : ∃ A1, A1 = (if c0 = (a1 : Int).toNat then A0 else (A0 : Option Addr).map (·.add ((a1 : Int).toNat * 3))) := ⟨_, rfl⟩
     obtain ⟨c10, hc10⟩ : ∃ c1, c1 = c0 - (a1 : Int).toNat := ⟨_, rfl⟩
     have hy10 : y198.length = l0.length - (a1 : Int).toNat := (by rw [Ny198.out, List.length_drop] <;> omega)
     rw [show (l0).drop (a1 : Int).toNat = y198 from Ny198.out.symm] at hr10
     replace hr10 : Kd.C k51 _ A10 y198.length y198 := (by rw [hA10]; exact hr10)
     rw [← hy10, ← hA10, ← hc10] at hcut10
     have HR201 := Aside0.mk hr10
     have HC201 := Aside0.mk (show y198.length ≤ c10 from by rw [hy10, hc10]; exact Nat.sub_le_sub_right hroom10 _)
     clear hr10 hC10 hroom10 hi010 hsz10 hc10
     have KY10 := Aside0.mk hy10
     have KA10 := Aside0.mk hA10
     clear hy10 hA10
     replace q10 := eq_true q10
     have q11 : (a1 : Int) ≤ ((l0.length : Int) : Int) := of_decide_eq_true (by first | (with_reducible assumption) | assumption)
     obtain ⟨i011, hi011, _, hsz11, _⟩ := info_parts info51
     have hroom11 : l0.length ≤ c0 := HC0.out
     have hC11 : Kd.C k51 _ A0 l0.length l0 := HR0.out
     have hcut11 := cut_to (P := Tryd.prog) 22 51 .i64 Tryd.underlying22 hi011 A0 l0.length c0 a1 (of_decide_eq_true (by first | (with_reducible assumption) | assumption)) q11 hroom11
     have hr11 := Kd.C_take (m := (a1 : Int).toNat) hC11 (by omega)
     have hy11 : y205.length = (a1 : Int).toNat := (by rw [Ny205.out, List.length_take]; omega)
     rw [← Ny205.out] at hr11
     rw [← hy11] at hcut11
     have HR208 := Aside0.mk hr11
     have HC208 := Aside0.mk (show y205.length ≤ c0 from by omega)
     clear hr11 hC11 hroom11 hi011 hsz11
     have KY11 := Aside0.mk hy11
     clear hy11
     replace q11 := eq_true q11
     refine start_ (n := 10) (S := fun w' => True) (ds := []) #[false, false, false, false, false, false, false, false, false, false] (by kernel_rfl) rfl rfl trivial (fun hHeld => ?_); refine with_tabW laws_turned.tab1 laws_turned.bits1 (fun HT_ HW_ => ?_)
     generalize w.drew = w9 at HB HR201 HR208 hHeld ⊢
     refine pure_ (i := 1) (N := some 6) (v := ?_) (a' := ?_) #[false, true, false, false, false, false, false, false, false, false] rfl rfl (any_of HT_.out (by kernel_rfl)) (fun _ _ _ h => h) (Or.inl ⟨by rfl, ?_⟩) ?_ ?_
     rotate_left
     ·
      intro w'
      go_simp
      with_reducible rfl
     rotate_left
     ·
      simp only [Act.put, List.setIfInBounds_toArray, List.set_cons_zero, List.set_cons_succ, i64_w, i32_w]
      rfl
     refine pure_ (i := 2) (N := some 7) (v := ?_) (a' := ?_) #[false, true, true, false, false, false, false, false, false, false] rfl rfl (any_of HT_.out (by kernel_rfl)) (fun _ _ _ h => h) (Or.inl ⟨by rfl, ?_⟩) ?_ ?_
     rotate_left
     ·
      intro w'
      go_simp
      with_reducible rfl
     rotate_left
     ·
      simp only [Act.put, List.setIfInBounds_toArray, List.set_cons_zero, List.set_cons_succ, i64_w, i32_w]
      rfl
     refine pure_ (i := 3) (N := some 8) (v := ?_) (a' := ?_) #[false, true, true, true, false, false, false, false, false, false] rfl rfl (any_of HT_.out (by kernel_rfl)) (fun _ _ _ h => h) (Or.inl ⟨by rfl, ?_⟩) ?_ ?_
     rotate_left
     ·
      intro w'
      go_simp
      with_reducible rfl
     rotate_left
     ·
      simp only [Act.put, List.setIfInBounds_toArray, List.set_cons_zero, List.set_cons_succ, i64_w, i32_w]
      rfl
     refine pure_ (i := 5) (N := some 10) (v := ?_) (a' := ?_) #[false, true, true, true, false, true, false, false, false, false] rfl rfl (any_of HT_.out (by kernel_rfl)) (fun _ _ _ h => h) (Or.inl ⟨by rfl, ?_⟩) ?_ ?_
     rotate_left
     ·
      intro w'
      go_simp
      with_reducible rfl
     rotate_left
     ·
      simp only [Act.put, List.setIfInBounds_toArray, List.set_cons_zero, List.set_cons_succ, i64_w, i32_w]
      rfl
     refine pure_ (i := 6) (N := some 11) (v := ?_) (a' := ?_) #[false, true, true, true, false, true, true, false, false, false] rfl rfl (any_of HT_.out (by kernel_rfl)) (fun _ _ _ h => h) (Or.inl ⟨by rfl, ?_⟩) ?_ ?_
     rotate_left
     ·
      intro w'
      go_simp
      with_reducible rfl
     rotate_left
     ·
      simp only [Act.put, List.setIfInBounds_toArray, List.set_cons_zero, List.set_cons_succ, i64_w, i32_w]
      rfl
     refine pure_ (i := 7) (N := some 12) (v := ?_) (a' := ?_) #[false, true, true, true, false, true, true, true, false, false] rfl rfl (any_of HT_.out (by kernel_rfl)) (fun _ _ _ h => h) (Or.inl ⟨by rfl, ?_⟩) ?_ ?_
     rotate_left
     ·
      intro w'
      go_simp
      with_reducible rfl
     rotate_left
     ·
      simp only [Act.put, List.setIfInBounds_toArray, List.set_cons_zero, List.set_cons_succ, i64_w, i32_w]
      rfl
     refine one_ (i := 0) (N := some 5) #[true, true, true, true, false, true, true, true, false, false] rfl rfl (one_of HT_.out (by kernel_rfl)) (by decide) (fun K hK => ?_)
     refine Kd.R_lit_step k51 _ 51 ?hg (N := 5) ?hd (xs := ([] : List (S51))) (inner := []) (ok := fun _ => True) (okp := fun _ => True) ?hr ?hp (fun _ hk => hk) trivial (Below.refl _ _) (Nat.le_refl _) (by simp) ?_; (case hd => rfl); (case hg => rfl); (case hr => first | (go_simp; done) | (go_simp; rfl)); (case hp => exact (Reps.none _ _))
     intro v196 w12 ho13 hb hg_ hnew_
     clear hg_ hnew_
     (first | rw [← Ny195.out] at ho13 | (simp only [Int.reduceToNat] at ho13; rw [← Ny195.out] at ho13))
     have n0_ := Aside0.mk (Kd.R_lower ho13 (below_size (by repeat (first | (with_reducible first | exact HB.out | apply below_alloc | apply pw_below_drewN | apply below_drew1) | exact HB.out))))
     have n1_ := Aside0.mk (below_step (by repeat (first | (with_reducible first | exact HB.out | apply below_alloc | apply pw_below_drewN | apply below_drew1) | exact HB.out)) hb)
     clear HB
     have HO197 := n0_
     have HB := n1_
     clear n0_ n1_
     clear hb ho13
     refine hK.out _ _ trivial (fun hHeld => ?_)
     clear hK K
     refine norm_ (a' := ?_) ?_ ?_
     rotate_left
     ·
      show Act.put _ (some 5) _ = _
      simp only [Act.put, List.setIfInBounds_toArray, List.set_cons_zero, List.set_cons_succ, i64_w, i32_w]
      rfl
     refine one_ (i := 4) (N := some 9) #[true, true, true, true, true, true, true, true, false, false] rfl rfl (one_of HT_.out (by kernel_rfl)) (by decide) (fun K hK => ?_)
     refine Kd.R_append_rows_step k51 (w0 := w) w.heap.size (by rfl) (.tmp 5) (.tmp 8) 22 51 (.agg #[(.int .i64 0), (.string ⟨#[]⟩), (.int .i64 0)]) 32 rfl Tryd.underlying22 info51 rfl (by decide) (by omega) v196 y195 y198 _ _ _ (fun _ => True) (fun _ => False) rfl rfl ?aO ?aR (fun _ _ h => h) (fun _ h => h.elim) ?aF ?aB ?aS ?aL ?_
     (case aR => repeat (first | exact (Kd.C_below HR201.out HB.out) | (with_reducible refine Kd.C_alloc ?_ _) | (with_reducible refine Kd.C_drewN ?_ _) | (with_reducible refine Kd.C_drew ?_)))
     (case aB => exact (by repeat (first | (with_reducible first | exact HB.out | apply below_alloc | apply pw_below_drewN | apply below_drew1) | exact HB.out)))
     (case aF => exact (fun _ _ => trivial))
     (case aO => exact (by (with_reducible repeat (first | apply Kd.R_alloc | apply Kd.R_drewN | apply Kd.R_drew)); exact HO197.out))
     (case aS => exact (below_size (by repeat (first | (with_reducible first | exact HB.out | apply below_alloc | apply pw_below_drewN | apply below_drew1) | exact HB.out))))
     (case aL => have := LMc5.out; omega)
     intro v203 w14 ho hb hg hat
     rw [← Ny202.out] at ho
     have n0_ := Aside0.mk (hb)
     have n1_ := Aside0.mk (ho)
     clear HB
     clear HO197
     have HB := n0_
     have HO204 := n1_
     clear n0_ n1_
     clear ho hb hg hat
     refine hK.out _ _ trivial (fun hHeld => ?_)
     clear hK K
     refine norm_ (a' := ?_) ?_ ?_
     rotate_left
     ·
      show Act.put _ (some 9) _ = _
      simp only [Act.put, List.setIfInBounds_toArray, List.set_cons_zero, List.set_cons_succ, i64_w, i32_w]
      rfl
     refine one_ (i := 8) (N := some 13) #[true, true, true, true, true, true, true, true, true, false] rfl rfl (one_of HT_.out (by kernel_rfl)) (by decide) (fun K hK => ?_)
     refine Kd.R_append_rows_step k51 (w0 := w) w.heap.size (by rfl) (.tmp 9) (.tmp 12) 22 51 (.agg #[(.int .i64 0), (.string ⟨#[]⟩), (.int .i64 0)]) 32 rfl Tryd.underlying22 info51 rfl (by decide) (by omega) v203 y202 y205 _ _ _ (fun _ => True) (fun _ => False) rfl rfl ?aO ?aR (fun _ _ h => h) (fun _ h => h.elim) ?aF ?aB ?aS ?aL ?_
     (case aR => repeat (first | exact (Kd.C_below HR208.out HB.out) | (with_reducible refine Kd.C_alloc ?_ _) | (with_reducible refine Kd.C_drewN ?_ _) | (with_reducible refine Kd.C_drew ?_)))
     (case aB => exact (by repeat (first | (with_reducible first | exact HB.out | apply below_alloc | apply pw_below_drewN | apply below_drew1) | exact HB.out)))
     (case aF => exact (fun _ _ => trivial))
     (case aO => exact (by (with_reducible repeat (first | apply Kd.R_alloc | apply Kd.R_drewN | apply Kd.R_drew)); exact HO204.out))
     (case aS => exact (below_size (by repeat (first | (with_reducible first | exact HB.out | apply below_alloc | apply pw_below_drewN | apply below_drew1) | exact HB.out))))
     (case aL => have := LMc8.out; omega)
     intro v210 w15 ho hb hg hat
     rw [← Ny209.out] at ho
     have n0_ := Aside0.mk (hb)
     have n1_ := Aside0.mk (ho)
     clear HB
     clear HO204
     have HB := n0_
     have HO211 := n1_
     clear n0_ n1_
     clear ho hb hg hat
     refine hK.out _ _ trivial (fun hHeld => ?_)
     clear hK K
     refine norm_ (a' := ?_) ?_ ?_
     rotate_left
     ·
      show Act.put _ (some 13) _ = _
      simp only [Act.put, List.setIfInBounds_toArray, List.set_cons_zero, List.set_cons_succ, i64_w, i32_w]
      rfl
     refine pure_ (i := 9) (N := some 4) (v := ?_) (a' := ?_) #[true, true, true, true, true, true, true, true, true, true] rfl rfl (any_of HT_.out (by kernel_rfl)) (fun _ _ _ h => h) (Or.inl ⟨by rfl, ?_⟩) ?_ ?_
     rotate_left
     ·
      intro w'
      go_simp
      with_reducible rfl
     rotate_left
     ·
      simp only [Act.put, List.setIfInBounds_toArray, List.set_cons_zero, List.set_cons_succ, i64_w, i32_w]
      rfl
     refine done_ (done_of HT_.out (by kernel_rfl)) ?_
     try go_wp2
     go_ret
     exact ⟨_, by first | rfl | (simp [errW_none, errW_some] <;> rfl) | (simp [*, errW_none, errW_some] <;> rfl), by (with_reducible repeat (first | apply Kd.R_alloc | apply Kd.R_drewN | apply Kd.R_drew)); exact HO211.out, by repeat (first | (with_reducible first | exact HB.out | apply below_alloc | apply pw_below_drewN | apply below_drew1) | exact HB.out)⟩
    ·
     rw [if_neg c8] at H
     exact absurd H (by simp)
   ·
    rw [if_neg c5] at H
    exact absurd H (by simp)
  ·
   rw [if_neg c4] at H
   exact absurd H (by simp)
 ·
  rw [if_neg c3] at H
  exact absurd H (by simp)

end Go.Proofs.YtcnbnljlopopkaaDoor.PFnListTurned

-- thin
