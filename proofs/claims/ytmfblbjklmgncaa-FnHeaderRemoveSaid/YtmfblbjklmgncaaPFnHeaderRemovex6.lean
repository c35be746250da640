-- Written by hprint.py (this session's program, over the kit's printing program, with this session's own contracts in it). Not trusted: Lean checks it.
import Derived.Test.YtmfblbjklmgncaaPFnHeaderRemovex0
import Derived.Test.YtmfblbjklmgncaaPFnHeaderRemovex1
import Derived.Test.YtmfblbjklmgncaaPFnHeaderRemovex3
import Derived.Test.YtmfblbjklmgncaaPFnHeaderRemovex4
import Derived.Test.YtmfblbjklmgncaaPFnHeaderRemovex5
namespace Go.Proofs.Ytmfblbjklmgncaa.PFnHeaderRemove
open Go.RowKit Go.Proofs.YtmfblbjklmgncaaW.PrintWords Go.Proofs.YtmfblbjklmgncaaW.PrintLast Go.Proofs.YtmfblbjklmgncaaW.PrintMore
attribute [local go_sem] max2_int min2_int max_two min_two max_three min_three max_four min_four   -- for this text's walks alone
set_option linter.unusedVariables false
set_option linter.unusedSimpArgs false

/-! ### laws_FnHeaderRemove: function 4 -/
section
open _root_.Go.Proofs.Ytmfblbjklmgncaa.HeadW
set_option maxHeartbeats 8000000 in
set_option maxRecDepth 100000 in
theorem spec_Without.callsC (k : Nat) (A0 : Option Addr) (c0 : Nat) (l0 : List (S37)) (a1 : ByteArray) (r : List (S37)) (w : World) (ho0 : Kd.C k37 w A0 l0.length l0) (hc0 : l0.length ≤ c0) (h : spec_Without.f k l0 a1 = some r) :
    Calls Try.prog 15 #[.slice A0 l0.length c0, .string a1] w fun e w' => ∃ A c, e = .returned (.slice A r.length c) ∧ r.length ≤ c ∧ Kd.C k37 w' A r.length r ∧ Below w.heap.size w w' := by
  have HO0 := Aside0.mk ho0
  clear ho0
  have HB := Aside0.mk (Below.refl w.heap.size w)
  have H : (spec_Without.l0 k l0 a1 0) = some r := h
  clear h
  have H' := Aside0.mk H
  clear H
  have hkb_ : ∀ (s_ : ByteArray) (W_ : World), (convert 9 27 (.string s_)).run Try.prog W_ = .ok (.slice (some ⟨W_.heap.size, 0, none⟩) s_.size (grownCap W_ s_.size 0 5)) (Lib.bytesWorld W_ 5 s_) := fun s_ W_ => print_bytes 9 27 5 Try.underlying9 Try.underlying27 Try.underlying5 s_ W_
  go_enter Try.func15, Try.ntmps15
  go_wp2
  go_loopg [5] k (fun kq v5 w' => ∃ (x5_1 : Int), v5 = .int .i64 x5_1 ∧ Aside0 (spec_Without.l0 kq l0 a1 x5_1 = some r) ∧ Aside0 (kq ≤ k) ∧ Aside0 (Below w.heap.size w w'))
  case atStart => exact ⟨(0), (by first | rfl | (simp; done) | (simp [*]; done)), H', ⟨Nat.le_refl _⟩, ⟨by repeat (first | (with_reducible first | exact HB.out | apply below_alloc | apply pw_below_drewN | apply below_drew1) | exact HB.out)⟩⟩
  case round =>
    clear H'
    try clear c1
    try clear p2
    obtain ⟨x5_1, rfl, HA, HK1, HB⟩ := hrel
    cases gk with
    | zero => exact absurd HA.out (by simp [spec_Without.l0])
    | succ k1 =>
      have H := HA.out
      clear HA
      simp only [spec_Without.l0] at H
      by_cases c3 : x5_1 < (l0.length : Int)
      · rw [if_pos c3] at H
        have c3b0 : decide (x5_1 < (l0.length : Int)) = true := decide_eq_true c3
        clear c3
        by_cases c4 : 0 ≤ x5_1
        · rw [if_pos c4] at H
          have c4b0 : decide (0 ≤ x5_1) = true := decide_eq_true c4
          clear c4
          by_cases c5 : ((rd_T37 l0 x5_1).f0).toList = a1.toList
          · rw [if_pos c5] at H
            have c5b0 : (((rd_T37 l0 x5_1).f0).toList == a1.toList) = true := beq_iff_eq.mpr c5
            have c5b1 : (((rd_T37 l0 x5_1).f0).toList != a1.toList) = false := bne_eq_false_iff_eq.mpr c5
            clear c5
            obtain ⟨y155, hy155⟩ : ∃ y_ : List (S37), y_ = (([] : List (S37))) := ⟨_, rfl⟩
            replace H : (if x5_1 ≤ (l0.length : Int) then ((some (l0.take (x5_1 : Int).toNat : List (S37))).bind fun y158 => (if y155.length + y158.length < 4398046511104 then ((some (y155 ++ y158 : List (S37))).bind fun y162 => (if 0 ≤ (wrap64 (x5_1 + 1)) then (if (wrap64 (x5_1 + 1)) ≤ (l0.length : Int) then ((some (l0.drop ((wrap64 (x5_1 + 1)) : Int).toNat : List (S37))).bind fun y165 => (if y162.length + y165.length < 4398046511104 then (some (y162 ++ y165)) else (none))) else (none)) else (none))) else (none))) else (none)) = some r := by first | (rw [hy155]; with_reducible exact H) | (have H2_ := (Option.bind_some _ _).symm.trans H; rw [hy155]; with_reducible exact H2_) | (have H2_ := (Option.bind_some _ _).symm.trans H; with_reducible exact H2_) | with_reducible exact H | (rw [hy155]; exact H) | exact H
            have Ny155 := Aside0.mk hy155
            clear hy155
            have c6b0 := eq_true (of_decide_eq_true (by first | (with_reducible assumption) | assumption) : 0 ≤ x5_1)
            by_cases c7 : x5_1 ≤ (l0.length : Int)
            · rw [if_pos c7] at H
              have c7b0 := eq_true c7
              have c7b1 : decide (x5_1 ≤ (l0.length : Int)) = true := decide_eq_true c7
              clear c7
              obtain ⟨y158, hy158⟩ : ∃ y_ : List (S37), y_ = (l0.take (x5_1 : Int).toNat) := ⟨_, rfl⟩
              replace H : (if y155.length + y158.length < 4398046511104 then ((some (y155 ++ y158 : List (S37))).bind fun y162 => (if 0 ≤ (wrap64 (x5_1 + 1)) then (if (wrap64 (x5_1 + 1)) ≤ (l0.length : Int) then ((some (l0.drop ((wrap64 (x5_1 + 1)) : Int).toNat : List (S37))).bind fun y165 => (if y162.length + y165.length < 4398046511104 then (some (y162 ++ y165)) else (none))) else (none)) else (none))) else (none)) = some r := by first | (rw [hy158]; with_reducible exact H) | (have H2_ := (Option.bind_some _ _).symm.trans H; rw [hy158]; with_reducible exact H2_) | (have H2_ := (Option.bind_some _ _).symm.trans H; with_reducible exact H2_) | with_reducible exact H | (rw [hy158]; exact H) | exact H
              have Ny158 := Aside0.mk hy158
              clear hy158
              by_cases c8 : y155.length + y158.length < 4398046511104
              · rw [if_pos c8] at H
                have LMc8 := Aside0.mk c8
                clear c8
                obtain ⟨y162, hy162⟩ : ∃ y_ : List (S37), y_ = (y155 ++ y158) := ⟨_, rfl⟩
                replace H : (if 0 ≤ (wrap64 (x5_1 + 1)) then (if (wrap64 (x5_1 + 1)) ≤ (l0.length : Int) then ((some (l0.drop ((wrap64 (x5_1 + 1)) : Int).toNat : List (S37))).bind fun y165 => (if y162.length + y165.length < 4398046511104 then (some (y162 ++ y165)) else (none))) else (none)) else (none)) = some r := by first | (rw [hy162]; with_reducible exact H) | (have H2_ := (Option.bind_some _ _).symm.trans H; rw [hy162]; with_reducible exact H2_) | (have H2_ := (Option.bind_some _ _).symm.trans H; with_reducible exact H2_) | with_reducible exact H | (rw [hy162]; exact H) | exact H
                have Ny162 := Aside0.mk hy162
                clear hy162
                obtain ⟨ji9, hji9⟩ : ∃ j_ : Int, (wrap64 (x5_1 + 1)) = j_ := ⟨_, rfl⟩
                replace H : (if 0 ≤ (ji9) then (if (ji9) ≤ (l0.length : Int) then ((some (l0.drop ((ji9) : Int).toNat : List (S37))).bind fun y165 => (if y162.length + y165.length < 4398046511104 then (some (y162 ++ y165)) else (none))) else (none)) else (none)) = some r := by first | (rw [hji9] at H; exact H) | (simp only [hji9] at H ⊢; exact H)
                have hji9w : (IntKind.i64.wrap (x5_1 + 1)) = ji9 := (i64_w _).trans hji9
                by_cases c10 : 0 ≤ (ji9)
                · rw [if_pos c10] at H
                  have c10b0 := eq_true c10
                  have c10b1 : decide (0 ≤ (ji9)) = true := decide_eq_true c10
                  clear c10
                  by_cases c11 : (ji9) ≤ (l0.length : Int)
                  · rw [if_pos c11] at H
                    have c11b0 := eq_true c11
                    have c11b1 : decide ((ji9) ≤ (l0.length : Int)) = true := decide_eq_true c11
                    clear c11
                    obtain ⟨y165, hy165⟩ : ∃ y_ : List (S37), y_ = (l0.drop ((ji9) : Int).toNat) := ⟨_, rfl⟩
                    replace H : (if y162.length + y165.length < 4398046511104 then (some (y162 ++ y165)) else (none)) = some r := by first | (rw [hy165]; with_reducible exact H) | (have H2_ := (Option.bind_some _ _).symm.trans H; rw [hy165]; with_reducible exact H2_) | (have H2_ := (Option.bind_some _ _).symm.trans H; with_reducible exact H2_) | with_reducible exact H | (rw [hy165]; exact H) | exact H
                    have Ny165 := Aside0.mk hy165
                    clear hy165
                    by_cases c12 : y162.length + y165.length < 4398046511104
                    · rw [if_pos c12] at H
                      have LMc12 := Aside0.mk c12
                      clear c12
                      obtain ⟨y169, hy169⟩ : ∃ y_ : List (S37), y_ = (y162 ++ y165) := ⟨_, rfl⟩
                      replace H : (some y169) = some r := by first | (rw [hy169]; with_reducible exact H) | (have H2_ := (Option.bind_some _ _).symm.trans H; rw [hy169]; with_reducible exact H2_) | (have H2_ := (Option.bind_some _ _).symm.trans H; with_reducible exact H2_) | with_reducible exact H | (rw [hy169]; exact H) | exact H
                      have Ny169 := Aside0.mk hy169
                      clear hy169
                      obtain rfl := Option.some.inj H
                      have p154 : 0 ≤ (x5_1 : Int) := of_decide_eq_true (by first | (with_reducible assumption) | assumption)
                      have q154 : x5_1 < (l0.length : Int) := of_decide_eq_true (by first | (with_reducible assumption) | assumption)
                      obtain ⟨ad154, e154, hx154_0, hx154_1⟩ := at_T37 (Kd.C_below HO0.out HB.out) x5_1 p154 q154
                      cases e154
                      replace p154 := eq_true p154
                      replace q154 := eq_true q154
                      try go_wp2
                      have n2_ := Aside0.mk (below_drew1 HB.out)
                      clear HB
                      have HB := n2_
                      try clear n0_; try clear n1_; try clear n2_
                      have q15 : (x5_1 : Int) ≤ ((l0.length : Int) : Int) := of_decide_eq_true (by first | (with_reducible assumption) | assumption)
                      obtain ⟨i015, hi015, _, hsz15, _⟩ := info_parts info37
                      have hroom15 : l0.length ≤ c0 := hc0
                      have hC15 : Kd.C k37 _ (some ad154) l0.length l0 := (Kd.C_below HO0.out HB.out)
                      have hcut15 := cut_to (P := Try.prog) 22 37 .i64 Try.underlying22 hi015 (some ad154) l0.length c0 x5_1 (of_decide_eq_true (by first | (with_reducible assumption) | assumption)) q15 hroom15
                      have hr15 := Kd.C_take (m := (x5_1 : Int).toNat) hC15 (by omega)
                      have hy15 : y158.length = (x5_1 : Int).toNat := (by rw [Ny158.out, List.length_take]; omega)
                      rw [← Ny158.out] at hr15
                      rw [← hy15] at hcut15
                      have HR161 := Aside0.mk hr15
                      have HC161 := Aside0.mk (show y158.length ≤ c0 from by omega)
                      clear hr15 hC15 hroom15 hi015 hsz15
                      have KY15 := Aside0.mk hy15
                      clear hy15
                      have KL15 := Aside0.mk (show (x5_1 : Int).toNat ≤ l0.length from by omega)
                      replace q15 := eq_true q15
                      have q16 : ((ji9) : Int) ≤ ((l0.length : Int) : Int) := of_decide_eq_true (by first | (with_reducible assumption) | assumption)
                      obtain ⟨i016, hi016, _, hsz16, _⟩ := info_parts info37
                      have hroom16 : l0.length ≤ c0 := hc0
                      have hC16 : Kd.C k37 _ (some ad154) l0.length l0 := (Kd.C_below HO0.out HB.out)
                      have q016 : (0 : Int) ≤ ((ji9) : Int) := of_decide_eq_true (by first | (with_reducible assumption) | assumption)
                      have hcut16 := cut_from (P := Try.prog) 22 37 .i64 Try.underlying22 hi016 2 hsz16 (some ad154) l0.length c0 (ji9) q016 q16
                      have hr16 := Kd.C_drop (m := ((ji9) : Int).toNat) (c := c0) hC16 (by omega) hroom16
                      obtain ⟨A16, hA16⟩ : ∃ A1, A1 = (if c0 = ((ji9) : Int).toNat then (some ad154) else ((some ad154) : Option Addr).map (·.add (((ji9) : Int).toNat * 2))) := ⟨_, rfl⟩
                      obtain ⟨c16, hc16⟩ : ∃ c1, c1 = c0 - ((ji9) : Int).toNat := ⟨_, rfl⟩
                      have hy16 : y165.length = l0.length - ((ji9) : Int).toNat := (by rw [Ny165.out, List.length_drop] <;> omega)
                      rw [show (l0).drop ((ji9) : Int).toNat = y165 from Ny165.out.symm] at hr16
                      replace hr16 : Kd.C k37 _ A16 y165.length y165 := (by rw [hA16]; exact hr16)
                      rw [← hy16, ← hA16, ← hc16] at hcut16
                      have HR168 := Aside0.mk hr16
                      have HC168 := Aside0.mk (show y165.length ≤ c16 from by rw [hy16, hc16]; exact Nat.sub_le_sub_right hroom16 _)
                      clear hr16 hC16 hroom16 hi016 hsz16 hc16
                      have KY16 := Aside0.mk hy16
                      have KA16 := Aside0.mk hA16
                      clear hy16 hA16
                      have KL16 := Aside0.mk (show ((ji9) : Int).toNat ≤ l0.length from by omega)
                      replace q16 := eq_true q16
                      refine start_ (n := 11) (S := fun w' => True) (ds := []) #[false, false, false, false, false, false, false, false, false, false, false] (by kernel_rfl) rfl rfl trivial (fun hHeld => ?_); refine with_tabW spec_Without.tab5 spec_Without.bits5 (fun HT_ HW_ => ?_)
                      generalize wr.drew = w14 at HB HR161 HR168 hHeld ⊢
                      refine pure_ (i := 1) (N := some 20) (v := ?_) (a' := ?_) #[false, true, false, false, false, false, false, false, false, false, false] rfl rfl (any_of HT_.out (by kernel_rfl)) (fun _ _ _ h => h) (Or.inl ⟨by rfl, ?_⟩) ?_ ?_
                      rotate_left
                      · intro w'
                        go_simp
                        with_reducible rfl
                      rotate_left
                      · simp only [Act.put, List.setIfInBounds_toArray, List.set_cons_zero, List.set_cons_succ, i64_w, i32_w]
                        rfl
                      refine pure_ (i := 2) (N := some 21) (v := ?_) (a' := ?_) #[false, true, true, false, false, false, false, false, false, false, false] rfl rfl (any_of HT_.out (by kernel_rfl)) (fun _ _ _ h => h) (Or.inl ⟨by rfl, ?_⟩) ?_ ?_
                      rotate_left
                      · intro w'
                        go_simp
                        with_reducible rfl
                      rotate_left
                      · simp only [Act.put, List.setIfInBounds_toArray, List.set_cons_zero, List.set_cons_succ, i64_w, i32_w]
                        rfl
                      refine pure_ (i := 3) (N := some 22) (v := ?_) (a' := ?_) #[false, true, true, true, false, false, false, false, false, false, false] rfl rfl (any_of HT_.out (by kernel_rfl)) (fun _ _ _ h => h) (Or.inl ⟨by rfl, ?_⟩) ?_ ?_
                      rotate_left
                      · intro w'
                        go_simp
                        with_reducible rfl
                      rotate_left
                      · simp only [Act.put, List.setIfInBounds_toArray, List.set_cons_zero, List.set_cons_succ, i64_w, i32_w]
                        rfl
                      refine pure_ (i := 5) (N := some 24) (v := ?_) (a' := ?_) #[false, true, true, true, false, true, false, false, false, false, false] rfl rfl (any_of HT_.out (by kernel_rfl)) (fun _ _ _ h => h) (Or.inl ⟨by rfl, ?_⟩) ?_ ?_
                      rotate_left
                      · intro w'
                        go_simp
                        with_reducible rfl
                      rotate_left
                      · simp only [Act.put, List.setIfInBounds_toArray, List.set_cons_zero, List.set_cons_succ, i64_w, i32_w]
                        rfl
                      refine pure_ (i := 6) (N := some 25) (v := ?_) (a' := ?_) #[false, true, true, true, false, true, true, false, false, false, false] rfl rfl (any_of HT_.out (by kernel_rfl)) (fun _ _ _ h => h) (Or.inl ⟨by rfl, ?_⟩) ?_ ?_
                      rotate_left
                      · intro w'
                        go_simp
                        with_reducible rfl
                      rotate_left
                      · simp only [Act.put, List.setIfInBounds_toArray, List.set_cons_zero, List.set_cons_succ, i64_w, i32_w]
                        rfl
                      refine pure_ (i := 7) (N := some 26) (v := ?_) (a' := ?_) #[false, true, true, true, false, true, true, true, false, false, false] rfl rfl (any_of HT_.out (by kernel_rfl)) (fun _ _ _ h => h) (Or.inl ⟨by rfl, ?_⟩) ?_ ?_
                      rotate_left
                      · intro w'
                        go_simp
                        with_reducible rfl
                      rotate_left
                      · simp only [Act.put, List.setIfInBounds_toArray, List.set_cons_zero, List.set_cons_succ, i64_w, i32_w]
                        rfl
                      refine pure_ (i := 8) (N := some 27) (v := ?_) (a' := ?_) #[false, true, true, true, false, true, true, true, true, false, false] rfl rfl (any_of HT_.out (by kernel_rfl)) (fun _ _ _ h => h) (Or.inl ⟨by rfl, ?_⟩) ?_ ?_
                      rotate_left
                      · intro w'
                        go_simp
                        with_reducible rfl
                      rotate_left
                      · simp only [Act.put, List.setIfInBounds_toArray, List.set_cons_zero, List.set_cons_succ, i64_w, i32_w]
                        rfl
                      refine one_ (i := 0) (N := some 19) #[true, true, true, true, false, true, true, true, true, false, false] rfl rfl (one_of HT_.out (by kernel_rfl)) (by decide) (fun K hK => ?_)
                      refine Kd.R_lit_step k37 _ 37 ?hg (N := 19) ?hd (xs := ([] : List (S37))) (inner := []) (ok := fun _ => True) (okp := fun _ => True) ?hr ?hp (fun _ hk => hk) trivial (Below.refl _ _) (Nat.le_refl _) (by simp) ?_; (case hd => rfl); (case hg => rfl); (case hr => first | (go_simp; done) | (go_simp; rfl)); (case hp => exact (Reps.none _ _))
                      intro v156 w17 ho18 hb hg_ hnew_
                      clear hg_ hnew_
                      (first | rw [← Ny155.out] at ho18 | (simp only [Int.reduceToNat] at ho18; rw [← Ny155.out] at ho18))
                      have n1_ := Aside0.mk (Kd.R_lower (Kd.R_newM (M := fun k_ => w.heap.size ≤ k_) ho18 (below_size (by repeat (first | (with_reducible first | exact HB.out | apply below_alloc | apply pw_below_drewN | apply below_drew1) | exact HB.out))) (fun k_ h_ => h_)) (below_size (by repeat (first | (with_reducible first | exact HB.out | apply below_alloc | apply pw_below_drewN | apply below_drew1) | exact HB.out))))
                      have n2_ := Aside0.mk (Kd.C_below (by repeat (first | (with_reducible exact HR161.out) | (with_reducible refine Kd.C_alloc ?_ _) | (with_reducible refine Kd.C_drewN ?_ _) | (with_reducible refine Kd.C_drew ?_) | exact HR161.out)) hb)
                      have n3_ := Aside0.mk (Kd.C_below (by repeat (first | (with_reducible exact HR168.out) | (with_reducible refine Kd.C_alloc ?_ _) | (with_reducible refine Kd.C_drewN ?_ _) | (with_reducible refine Kd.C_drew ?_) | exact HR168.out)) hb)
                      have n5_ := Aside0.mk (below_step (by repeat (first | (with_reducible first | exact HB.out | apply below_alloc | apply pw_below_drewN | apply below_drew1) | exact HB.out)) hb)
                      clear HR161
                      clear HR168
                      clear HB
                      have HO157 := n1_
                      have HR161 := n2_
                      have HR168 := n3_
                      have HB := n5_
                      try clear n0_; try clear n1_; try clear n2_; try clear n3_; try clear n4_; try clear n5_
                      clear hb ho18
                      refine hK.out _ _ trivial (fun hHeld => ?_)
                      clear hK K
                      refine norm_ (a' := ?_) ?_ ?_
                      rotate_left
                      · show Act.put _ (some 19) _ = _
                        simp only [Act.put, List.setIfInBounds_toArray, List.set_cons_zero, List.set_cons_succ, i64_w, i32_w]
                        rfl
                      refine one_ (i := 4) (N := some 23) #[true, true, true, true, true, true, true, true, true, false, false] rfl rfl (one_of HT_.out (by kernel_rfl)) (by decide) (fun K hK => ?_)
                      refine Kd.R_append_rows_step k37 (w0 := w) w.heap.size (by rfl) (.tmp 19) (.tmp 22) 22 37 (.agg #[(.string ⟨#[]⟩), (.string ⟨#[]⟩)]) 32 rfl Try.underlying22 info37 rfl (by decide) (by omega) v156 y155 y158 _ _ _ (fun k_ => w.heap.size ≤ k_) (fun _ => False) rfl rfl ?aO ?aR (fun _ _ h => h) (fun _ h => h.elim) ?aF ?aB ?aS ?aL ?_
                      (case aR => repeat (first | exact (by repeat (first | (with_reducible exact HR161.out) | (with_reducible refine Kd.C_alloc ?_ _) | (with_reducible refine Kd.C_drewN ?_ _) | (with_reducible refine Kd.C_drew ?_) | exact HR161.out)) | (with_reducible refine Kd.C_alloc ?_ _) | (with_reducible refine Kd.C_drewN ?_ _) | (with_reducible refine Kd.C_drew ?_)))
                      (case aB => exact (by repeat (first | (with_reducible first | exact HB.out | apply below_alloc | apply pw_below_drewN | apply below_drew1) | exact HB.out)))
                      (case aF => exact (fun k_ hk => Nat.le_trans (below_size (by repeat (first | (with_reducible first | exact HB.out | apply below_alloc | apply pw_below_drewN | apply below_drew1) | exact HB.out))) hk))
                      (case aO => exact (by (with_reducible repeat (first | apply Kd.R_alloc | apply Kd.R_drewN | apply Kd.R_drew)); exact Kd.R_mono HO157.out (fun _ hk => hk.1)))
                      (case aS => exact (below_size (by repeat (first | (with_reducible first | exact HB.out | apply below_alloc | apply pw_below_drewN | apply below_drew1) | exact HB.out))))
                      (case aL => have := LMc8.out; omega)
                      intro v163 w19 ho hb hg hat
                      rw [← Ny162.out] at ho
                      have n1_ := Aside0.mk (hb)
                      have n3_ := Aside0.mk ((show Kd.C k37 w19 (some ad154) y158.length y158 from by rw [Ny158.out]; exact Kd.C_take (m := (x5_1 : Int).toNat) ((Kd.C_below HO0.out hb)) KL15.out))
                      have n4_ := Aside0.mk ((show Kd.C k37 w19 A16 y165.length y165 from by rw [Ny165.out, KA16.out]; exact Kd.C_drop (m := ((ji9) : Int).toNat) (c := c0) ((Kd.C_below HO0.out hb)) KL16.out (hc0)))
                      have n5_ := Aside0.mk (ho)
                      clear HB
                      clear HR161
                      clear HR168
                      clear HO157
                      have HB := n1_
                      have HR161 := n3_
                      have HR168 := n4_
                      have HO164 := n5_
                      try clear n0_; try clear n1_; try clear n2_; try clear n3_; try clear n4_; try clear n5_
                      clear ho hb hg hat
                      refine hK.out _ _ trivial (fun hHeld => ?_)
                      clear hK K
                      refine norm_ (a' := ?_) ?_ ?_
                      rotate_left
                      · show Act.put _ (some 23) _ = _
                        simp only [Act.put, List.setIfInBounds_toArray, List.set_cons_zero, List.set_cons_succ, i64_w, i32_w]
                        rfl
                      refine one_ (i := 9) (N := some 28) #[true, true, true, true, true, true, true, true, true, true, false] rfl rfl (one_of HT_.out (by kernel_rfl)) (by decide) (fun K hK => ?_)
                      refine Kd.R_append_rows_step k37 (w0 := w) w.heap.size (by rfl) (.tmp 23) (.tmp 27) 22 37 (.agg #[(.string ⟨#[]⟩), (.string ⟨#[]⟩)]) 32 rfl Try.underlying22 info37 rfl (by decide) (by omega) v163 y162 y165 _ _ _ (fun k_ => w.heap.size ≤ k_) (fun _ => False) rfl rfl ?aO ?aR (fun _ _ h => h) (fun _ h => h.elim) ?aF ?aB ?aS ?aL ?_
                      (case aR => repeat (first | exact (by repeat (first | (with_reducible exact HR168.out) | (with_reducible refine Kd.C_alloc ?_ _) | (with_reducible refine Kd.C_drewN ?_ _) | (with_reducible refine Kd.C_drew ?_) | exact HR168.out)) | (with_reducible refine Kd.C_alloc ?_ _) | (with_reducible refine Kd.C_drewN ?_ _) | (with_reducible refine Kd.C_drew ?_)))
                      (case aB => exact (by repeat (first | (with_reducible first | exact HB.out | apply below_alloc | apply pw_below_drewN | apply below_drew1) | exact HB.out)))
                      (case aF => exact (fun k_ hk => Nat.le_trans (below_size (by repeat (first | (with_reducible first | exact HB.out | apply below_alloc | apply pw_below_drewN | apply below_drew1) | exact HB.out))) hk))
                      (case aO => exact (by (with_reducible repeat (first | apply Kd.R_alloc | apply Kd.R_drewN | apply Kd.R_drew)); exact HO164.out))
                      (case aS => exact (below_size (by repeat (first | (with_reducible first | exact HB.out | apply below_alloc | apply pw_below_drewN | apply below_drew1) | exact HB.out))))
                      (case aL => have := LMc12.out; omega)
                      intro v170 w20 ho hb hg hat
                      rw [← Ny169.out] at ho
                      have n1_ := Aside0.mk (hb)
                      have n3_ := Aside0.mk ((show Kd.C k37 w20 (some ad154) y158.length y158 from by rw [Ny158.out]; exact Kd.C_take (m := (x5_1 : Int).toNat) ((Kd.C_below HO0.out hb)) KL15.out))
                      have n4_ := Aside0.mk ((show Kd.C k37 w20 A16 y165.length y165 from by rw [Ny165.out, KA16.out]; exact Kd.C_drop (m := ((ji9) : Int).toNat) (c := c0) ((Kd.C_below HO0.out hb)) KL16.out (hc0)))
                      have n5_ := Aside0.mk (ho)
                      clear HB
                      clear HR161
                      clear HR168
                      clear HO164
                      have HB := n1_
                      have HR161 := n3_
                      have HR168 := n4_
                      have HO171 := n5_
                      try clear n0_; try clear n1_; try clear n2_; try clear n3_; try clear n4_; try clear n5_
                      clear ho hb hg hat
                      refine hK.out _ _ trivial (fun hHeld => ?_)
                      clear hK K
                      refine norm_ (a' := ?_) ?_ ?_
                      rotate_left
                      · show Act.put _ (some 28) _ = _
                        simp only [Act.put, List.setIfInBounds_toArray, List.set_cons_zero, List.set_cons_succ, i64_w, i32_w]
                        rfl
                      refine pure_ (i := 10) (N := some 4) (v := ?_) (a' := ?_) #[true, true, true, true, true, true, true, true, true, true, true] rfl rfl (any_of HT_.out (by kernel_rfl)) (fun _ _ _ h => h) (Or.inl ⟨by rfl, ?_⟩) ?_ ?_
                      rotate_left
                      · intro w'
                        go_simp
                        with_reducible rfl
                      rotate_left
                      · simp only [Act.put, List.setIfInBounds_toArray, List.set_cons_zero, List.set_cons_succ, i64_w, i32_w]
                        rfl
                      refine done_ (done_of HT_.out (by kernel_rfl)) ?_
                      obtain ⟨A_, c_, e_, h1_, h2_⟩ := Kd.R_reads HO171.out
                      subst e_
                      have H2_ := Aside0.mk h2_
                      have H1_ := Aside0.mk h1_
                      clear h1_ h2_
                      try go_wp2
                      go_ret
                      exact ⟨_, _, by first | rfl | (simp [errW_none, errW_some] <;> rfl) | (simp only [← hji9]; first | rfl | (simp [errW_none, errW_some] <;> rfl)), H1_.out, H2_.out, HB.out⟩
                    · rw [if_neg c12] at H
                      exact absurd H (by simp)
                  · rw [if_neg c11] at H
                    exact absurd H (by simp)
                · rw [if_neg c10] at H
                  exact absurd H (by simp)
              · rw [if_neg c8] at H
                exact absurd H (by simp)
            · rw [if_neg c7] at H
              exact absurd H (by simp)
          · rw [if_neg c5] at H
            have c5b0 : (((rd_T37 l0 x5_1).f0).toList == a1.toList) = false := beq_eq_false_iff_ne.mpr c5
            have c5b1 : (((rd_T37 l0 x5_1).f0).toList != a1.toList) = true := bne_iff_ne.mpr c5
            have H' := Aside0.mk H
            clear H
            have p154 : 0 ≤ (x5_1 : Int) := of_decide_eq_true (by first | (with_reducible assumption) | assumption)
            have q154 : x5_1 < (l0.length : Int) := of_decide_eq_true (by first | (with_reducible assumption) | assumption)
            obtain ⟨ad154, e154, hx154_0, hx154_1⟩ := at_T37 (Kd.C_below HO0.out HB.out) x5_1 p154 q154
            cases e154
            replace p154 := eq_true p154
            replace q154 := eq_true q154
            go_wp2
            go_roundg k1
            case measure => have := HK1.out; omega
            case rel => exact ⟨(wrap64 (x5_1 + 1)), (by first | rfl | (simp; done) | (simp [*]; done)), H', ⟨by have := HK1.out; omega⟩, ⟨by repeat (first | (with_reducible first | exact HB.out | apply below_alloc | apply pw_below_drewN | apply below_drew1) | exact HB.out)⟩⟩
        · rw [if_neg c4] at H
          exact absurd H (by simp)
      · rw [if_neg c3] at H
        have c3b0 : decide (x5_1 < (l0.length : Int)) = false := decide_eq_false c3
        clear c3
        obtain rfl := Option.some.inj H
        go_wp2
        go_ret
        exact ⟨_, _, rfl, hc0, Kd.C_below HO0.out HB.out, HB.out⟩

def laws_FnHeaderRemove.g (k : Nat) (l0 : List (S37)) (a1 : ByteArray) : Option Bool :=
  (spec_Header.f k l0).bind fun t => (impl_HeaderRemove.f t a1).bind fun u => (spec_Without.f k l0 a1).bind fun x => (laws_left.f k u x).bind fun y => if y = true then laws_awakeHeader.f k else some false
def laws_FnHeaderRemove.f (k : Nat) (l0 : List (S37)) (a1 : ByteArray) : Option Bool :=
  (laws_zzFits3.f k l0).bind fun z => if z = false then some true else if 2147483647 < a1.size then some true else
  (laws_headed.f k l0).bind fun h => if h = false then laws_awakeHeader.f k else
  (laws_knownKey.f k l0 a1).bind fun q => if q = false then laws_awakeHeader.f k else if l0.length = 0 then laws_awakeHeader.f k else laws_FnHeaderRemove.g k l0 a1
theorem laws_FnHeaderRemove.mono : ∀ a0 a1 k, LeO (laws_FnHeaderRemove.f k a0 a1) (laws_FnHeaderRemove.f (k + 1) a0 a1) := by
  intro a0 a1 k
  unfold laws_FnHeaderRemove.f laws_FnHeaderRemove.g
  repeat' first
      | (with_reducible exact laws_zzFits3.mono _ _)
      | (with_reducible exact laws_headed.mono _ _)
      | (with_reducible exact laws_knownKey.mono _ _ _)
      | (with_reducible exact laws_awakeHeader.mono _)
      | (with_reducible exact laws_left.mono _ _ _)
      | (with_reducible exact spec_Header.mono _ _)
      | (with_reducible exact spec_Without.mono _ _ _)
      | (with_reducible exact LeO.refl _)
      | (with_reducible exact LeO.none _)
      | (with_reducible refine LeO.ite ?_ ?_)
      | (with_reducible refine LeO.bind ?_ (fun _ => ?_))
set_option maxHeartbeats 8000000 in
set_option maxRecDepth 100000 in
theorem HR_A (k : Nat) (A0 : Option Addr) (c0 : Nat) (l0 : List (S37)) (a1 : ByteArray) (w : World) (hr0 : Kd.C k37 w A0 l0.length l0) (hc0 : l0.length ≤ c0) (hz : laws_zzFits3.f k l0 = some false) :
    Calls Try.prog 4 #[.slice A0 l0.length c0, .string a1] w fun e w' => e = .returned (.bool true) ∧ Below w.heap.size w w' := by
  have HZ := Aside0.mk (laws_zzFits3.calls k A0 c0 l0 false w hr0 hc0 hz)
  clear hr0 hc0 hz
  have hkb_ : ∀ (s_ : ByteArray) (W_ : World), (convert 9 27 (.string s_)).run Try.prog W_ = .ok (.slice (some ⟨W_.heap.size, 0, none⟩) s_.size (grownCap W_ s_.size 0 5)) (Lib.bytesWorld W_ 5 s_) := fun s_ W_ => print_bytes 9 27 5 Try.underlying9 Try.underlying27 Try.underlying5 s_ W_
  go_enter Try.func4, Try.ntmps4
  go_wp2_with fail
  refine HZ.out.mono ?_
  rintro e w1 ⟨rfl, hb⟩
  have HB := Aside0.mk hb
  clear hb
  go_wp2_with fail
  go_ret
  exact ⟨rfl, HB.out⟩
set_option maxHeartbeats 8000000 in
set_option maxRecDepth 100000 in
theorem HR_B (k : Nat) (A0 : Option Addr) (c0 : Nat) (l0 : List (S37)) (a1 : ByteArray) (w : World) (hr0 : Kd.C k37 w A0 l0.length l0) (hc0 : l0.length ≤ c0) (hz : laws_zzFits3.f k l0 = some true) (hs : 2147483647 < a1.size) :
    Calls Try.prog 4 #[.slice A0 l0.length c0, .string a1] w fun e w' => e = .returned (.bool true) ∧ Below w.heap.size w w' := by
  have HZ := Aside0.mk (laws_zzFits3.calls k A0 c0 l0 true w hr0 hc0 hz)
  have q1 : decide ((2147483647 : Int) < (a1.size : Int)) = true := decide_eq_true (by omega)
  have q2 : decide (2147483647 < a1.size) = true := decide_eq_true hs
  clear hr0 hc0 hz hs
  have hkb_ : ∀ (s_ : ByteArray) (W_ : World), (convert 9 27 (.string s_)).run Try.prog W_ = .ok (.slice (some ⟨W_.heap.size, 0, none⟩) s_.size (grownCap W_ s_.size 0 5)) (Lib.bytesWorld W_ 5 s_) := fun s_ W_ => print_bytes 9 27 5 Try.underlying9 Try.underlying27 Try.underlying5 s_ W_
  go_enter Try.func4, Try.ntmps4
  go_wp2_with fail
  refine HZ.out.mono ?_
  rintro e w1 ⟨rfl, hb⟩
  have HB := Aside0.mk hb
  clear hb
  go_wp2_with fail
  go_ret
  exact ⟨rfl, HB.out⟩
set_option maxHeartbeats 8000000 in
set_option maxRecDepth 100000 in
theorem HR_C (k : Nat) (A0 : Option Addr) (c0 : Nat) (l0 : List (S37)) (a1 : ByteArray) (w : World) (hr0 : Kd.C k37 w A0 l0.length l0) (hc0 : l0.length ≤ c0) (hz : laws_zzFits3.f k l0 = some true) (hs : ¬ 2147483647 < a1.size) (hh : laws_headed.f k l0 = some false) (r : Bool) (hr : laws_awakeHeader.f k = some r) :
    Calls Try.prog 4 #[.slice A0 l0.length c0, .string a1] w fun e w' => e = .returned (.bool r) ∧ Below w.heap.size w w' := by
  have HZ := Aside0.mk (laws_zzFits3.calls k A0 c0 l0 true w hr0 hc0 hz)
  have q1 : decide ((2147483647 : Int) < (a1.size : Int)) = false := decide_eq_false (by omega)
  have q2 : decide (2147483647 < a1.size) = false := decide_eq_false hs
  have HC := Aside0.mk hr0
  have HH := Aside0.mk (fun (W : World) (h : Kd.C k37 W A0 l0.length l0) => laws_headed.calls k A0 c0 l0 false W h hc0 hh)
  have HR := Aside0.mk hr
  clear hr0 hc0 hz hs hh hr
  have hkb_ : ∀ (s_ : ByteArray) (W_ : World), (convert 9 27 (.string s_)).run Try.prog W_ = .ok (.slice (some ⟨W_.heap.size, 0, none⟩) s_.size (grownCap W_ s_.size 0 5)) (Lib.bytesWorld W_ 5 s_) := fun s_ W_ => print_bytes 9 27 5 Try.underlying9 Try.underlying27 Try.underlying5 s_ W_
  go_enter Try.func4, Try.ntmps4
  go_wp2_with fail
  refine HZ.out.mono ?_
  rintro e w1 ⟨rfl, hb⟩
  have HB := Aside0.mk hb
  clear hb
  go_wp2_with fail
  refine (HH.out w1 (Kd.C_below HC.out HB.out)).mono ?_
  rintro e w2 ⟨rfl, hb2⟩
  have HB2 := Aside0.mk (below_step HB.out hb2)
  clear hb2
  go_wp2_with fail
  refine (laws_awakeHeader.calls k r w2 HR.out).mono ?_
  rintro e w3 ⟨rfl, hb3⟩
  have HB3 := Aside0.mk (below_step HB2.out hb3)
  clear hb3
  go_wp2_with fail
  go_ret
  exact ⟨rfl, HB3.out⟩
set_option maxHeartbeats 8000000 in
set_option maxRecDepth 100000 in
theorem HR_D (k : Nat) (A0 : Option Addr) (c0 : Nat) (l0 : List (S37)) (a1 : ByteArray) (w : World) (hr0 : Kd.C k37 w A0 l0.length l0) (hc0 : l0.length ≤ c0) (hz : laws_zzFits3.f k l0 = some true) (hs : ¬ 2147483647 < a1.size) (hh : laws_headed.f k l0 = some true) (hk : laws_knownKey.f k l0 a1 = some false) (r : Bool) (hr : laws_awakeHeader.f k = some r) :
    Calls Try.prog 4 #[.slice A0 l0.length c0, .string a1] w fun e w' => e = .returned (.bool r) ∧ Below w.heap.size w w' := by
  have HZ := Aside0.mk (laws_zzFits3.calls k A0 c0 l0 true w hr0 hc0 hz)
  have q1 : decide ((2147483647 : Int) < (a1.size : Int)) = false := decide_eq_false (by omega)
  have q2 : decide (2147483647 < a1.size) = false := decide_eq_false hs
  have HC := Aside0.mk hr0
  have HH := Aside0.mk (fun (W : World) (h : Kd.C k37 W A0 l0.length l0) => laws_headed.calls k A0 c0 l0 true W h hc0 hh)
  have HR := Aside0.mk hr
  have HK := Aside0.mk (fun (W : World) (h : Kd.C k37 W A0 l0.length l0) => laws_knownKey.calls k A0 c0 l0 a1 false W h hc0 hk)
  clear hk
  clear hr0 hc0 hz hs hh hr
  have hkb_ : ∀ (s_ : ByteArray) (W_ : World), (convert 9 27 (.string s_)).run Try.prog W_ = .ok (.slice (some ⟨W_.heap.size, 0, none⟩) s_.size (grownCap W_ s_.size 0 5)) (Lib.bytesWorld W_ 5 s_) := fun s_ W_ => print_bytes 9 27 5 Try.underlying9 Try.underlying27 Try.underlying5 s_ W_
  go_enter Try.func4, Try.ntmps4
  go_wp2_with fail
  refine HZ.out.mono ?_
  rintro e w1 ⟨rfl, hb⟩
  have HB := Aside0.mk hb
  clear hb
  go_wp2_with fail
  refine (HH.out w1 (Kd.C_below HC.out HB.out)).mono ?_
  rintro e w2 ⟨rfl, hb2⟩
  have HB2 := Aside0.mk (below_step HB.out hb2)
  clear hb2
  go_wp2_with fail
  refine (HK.out w2 (Kd.C_below HC.out HB2.out)).mono ?_
  rintro e w4 ⟨rfl, hb4⟩
  have HB4 := Aside0.mk (below_step HB2.out hb4)
  clear hb4
  go_wp2_with fail
  refine (laws_awakeHeader.calls k r w4 HR.out).mono ?_
  rintro e w3 ⟨rfl, hb3⟩
  have HB3 := Aside0.mk (below_step HB4.out hb3)
  clear hb3
  go_wp2_with fail
  go_ret
  exact ⟨rfl, HB3.out⟩
set_option maxHeartbeats 8000000 in
set_option maxRecDepth 100000 in
theorem HR_E (k : Nat) (A0 : Option Addr) (c0 : Nat) (l0 : List (S37)) (a1 : ByteArray) (w : World) (hr0 : Kd.C k37 w A0 l0.length l0) (hc0 : l0.length ≤ c0) (hz : laws_zzFits3.f k l0 = some true) (hs : ¬ 2147483647 < a1.size) (hh : laws_headed.f k l0 = some true) (hk : laws_knownKey.f k l0 a1 = some true) (hl : l0.length = 0) (r : Bool) (hr : laws_awakeHeader.f k = some r) :
    Calls Try.prog 4 #[.slice A0 l0.length c0, .string a1] w fun e w' => e = .returned (.bool r) ∧ Below w.heap.size w w' := by
  have HZ := Aside0.mk (laws_zzFits3.calls k A0 c0 l0 true w hr0 hc0 hz)
  have q1 : decide ((2147483647 : Int) < (a1.size : Int)) = false := decide_eq_false (by omega)
  have q2 : decide (2147483647 < a1.size) = false := decide_eq_false hs
  have HC := Aside0.mk hr0
  have HH := Aside0.mk (fun (W : World) (h : Kd.C k37 W A0 l0.length l0) => laws_headed.calls k A0 c0 l0 true W h hc0 hh)
  have HR := Aside0.mk hr
  have HK := Aside0.mk (fun (W : World) (h : Kd.C k37 W A0 l0.length l0) => laws_knownKey.calls k A0 c0 l0 a1 true W h hc0 hk)
  have q5 : ((l0.length : Int) == 0) = true := beq_iff_eq.2 (by omega)
  have q6 : decide (l0.length = 0) = true := decide_eq_true hl
  clear hk hl
  clear hr0 hc0 hz hs hh hr
  have hkb_ : ∀ (s_ : ByteArray) (W_ : World), (convert 9 27 (.string s_)).run Try.prog W_ = .ok (.slice (some ⟨W_.heap.size, 0, none⟩) s_.size (grownCap W_ s_.size 0 5)) (Lib.bytesWorld W_ 5 s_) := fun s_ W_ => print_bytes 9 27 5 Try.underlying9 Try.underlying27 Try.underlying5 s_ W_
  go_enter Try.func4, Try.ntmps4
  go_wp2_with fail
  refine HZ.out.mono ?_
  rintro e w1 ⟨rfl, hb⟩
  have HB := Aside0.mk hb
  clear hb
  go_wp2_with fail
  refine (HH.out w1 (Kd.C_below HC.out HB.out)).mono ?_
  rintro e w2 ⟨rfl, hb2⟩
  have HB2 := Aside0.mk (below_step HB.out hb2)
  clear hb2
  go_wp2_with fail
  refine (HK.out w2 (Kd.C_below HC.out HB2.out)).mono ?_
  rintro e w4 ⟨rfl, hb4⟩
  have HB4 := Aside0.mk (below_step HB2.out hb4)
  clear hb4
  go_wp2_with fail
  refine (laws_awakeHeader.calls k r w4 HR.out).mono ?_
  rintro e w3 ⟨rfl, hb3⟩
  have HB3 := Aside0.mk (below_step HB4.out hb3)
  clear hb3
  go_wp2_with fail
  go_ret
  exact ⟨rfl, HB3.out⟩
set_option maxHeartbeats 8000000 in
set_option maxRecDepth 100000 in
theorem HR_F (k : Nat) (A0 : Option Addr) (c0 : Nat) (l0 : List (S37)) (a1 : ByteArray) (w : World) (hr0 : Kd.C k37 w A0 l0.length l0) (hc0 : l0.length ≤ c0) (hz : laws_zzFits3.f k l0 = some true) (hs : ¬ 2147483647 < a1.size) (hh : laws_headed.f k l0 = some true) (hk : laws_knownKey.f k l0 a1 = some true) (hl : ¬ l0.length = 0) (t : ByteArray) (ht : spec_Header.f k l0 = some t) (u : List Int) (hu : impl_HeaderRemove.f t a1 = some u) (x : List S37) (hx : spec_Without.f k l0 a1 = some x) (y : Bool) (hy : laws_left.f k u x = some y) (r : Bool) (hr : y = true → laws_awakeHeader.f k = some r) (hrr : y = false → r = false) :
    Calls Try.prog 4 #[.slice A0 l0.length c0, .string a1] w fun e w' => e = .returned (.bool r) ∧ Below w.heap.size w w' := by
  have HZ := Aside0.mk (laws_zzFits3.calls k A0 c0 l0 true w hr0 hc0 hz)
  have q1 : decide ((2147483647 : Int) < (a1.size : Int)) = false := decide_eq_false (by omega)
  have q2 : decide (2147483647 < a1.size) = false := decide_eq_false hs
  have HC := Aside0.mk hr0
  have HH := Aside0.mk (fun (W : World) (h : Kd.C k37 W A0 l0.length l0) => laws_headed.calls k A0 c0 l0 true W h hc0 hh)
  have HR := Aside0.mk hr
  have HRR := Aside0.mk hrr
  clear hrr
  have HK := Aside0.mk (fun (W : World) (h : Kd.C k37 W A0 l0.length l0) => laws_knownKey.calls k A0 c0 l0 a1 true W h hc0 hk)
  have q5 : ((l0.length : Int) == 0) = false := beq_eq_false_iff_ne.2 (by omega)
  have q6 : decide (l0.length = 0) = false := decide_eq_false hl
  have HT := Aside0.mk (fun (W : World) (h : Kd.C k37 W A0 l0.length l0) => spec_Header.calls k A0 c0 l0 t W h hc0 ht)
  have HU := Aside0.mk (fun (W : World) => impl_HeaderRemove.calls t a1 u W hu (g := W.heap.size) (c := grownCap W t.size 0 5) rfl (grownCap_ge _ _ _ _))
  have HX := Aside0.mk (fun (W : World) (h : Kd.C k37 W A0 l0.length l0) => spec_Without.callsC k A0 c0 l0 a1 x W h hc0 hx)
  have HY := Aside0.mk hy
  have hkb := fun (s_ : ByteArray) (W_ : World) => print_bytes (P := Try.prog) 9 27 5 Try.underlying9 Try.underlying27 Try.underlying5 s_ W_
  clear hk hl ht hu hx hy
  clear hr0 hc0 hz hs hh hr
  have hkb_ : ∀ (s_ : ByteArray) (W_ : World), (convert 9 27 (.string s_)).run Try.prog W_ = .ok (.slice (some ⟨W_.heap.size, 0, none⟩) s_.size (grownCap W_ s_.size 0 5)) (Lib.bytesWorld W_ 5 s_) := fun s_ W_ => print_bytes 9 27 5 Try.underlying9 Try.underlying27 Try.underlying5 s_ W_
  go_enter Try.func4, Try.ntmps4
  go_wp2_with fail
  refine HZ.out.mono ?_
  rintro e w1 ⟨rfl, hb⟩
  have HB := Aside0.mk hb
  clear hb
  go_wp2_with fail
  refine (HH.out w1 (Kd.C_below HC.out HB.out)).mono ?_
  rintro e w2 ⟨rfl, hb2⟩
  have HB2 := Aside0.mk (below_step HB.out hb2)
  clear hb2
  go_wp2_with fail
  refine (HK.out w2 (Kd.C_below HC.out HB2.out)).mono ?_
  rintro e w4 ⟨rfl, hb4⟩
  have HB4 := Aside0.mk (below_step HB2.out hb4)
  clear hb4
  go_wp2_with fail
  refine (HT.out w4 (Kd.C_below HC.out HB4.out)).mono ?_
  rintro e w5 ⟨rfl, ⟨nd, rfl⟩⟩
  have HB5 := Aside0.mk (pw_below_drewN HB4.out nd)
  generalize w4.drewN nd = w5 at HB5 ⊢
  go_wp2_with fail
  refine (HU.out w5).mono ?_
  rintro e w6 ⟨v6, rfl, ho6, hb6⟩
  obtain ⟨A6, c6, e6, h6, hC6⟩ := Kd.R_reads ho6
  subst e6
  have HC6 := Aside0.mk hC6
  have HL6 := Aside0.mk h6
  have HB6 := Aside0.mk (below_step HB5.out hb6)
  clear ho6 hb6 h6 hC6
  go_wp2_with fail
  refine (HX.out w6 (Kd.C_below HC.out HB6.out)).mono ?_
  rintro e w7 ⟨A7, c7, rfl, h7, hC7, hb7⟩
  have HC7 := Aside0.mk hC7
  have HL7 := Aside0.mk h7
  have HD7 := Aside0.mk hb7
  have HB7 := Aside0.mk (below_step HB6.out hb7)
  clear hC7 h7 hb7
  go_wp2_with fail
  refine (laws_left.calls k A6 c6 u A7 c7 x y w7 (Kd.C_below HC6.out HD7.out) HL6.out HC7.out HL7.out HY.out).mono ?_
  rintro e w8 ⟨rfl, ⟨nd8, rfl⟩⟩
  have HB8 := Aside0.mk (pw_below_drewN HB7.out nd8)
  generalize w7.drewN nd8 = w8 at HB8 ⊢
  cases y with
  | false =>
    go_wp2_with fail
    go_ret
    exact ⟨by rw [HRR.out trivial]; rfl, HB8.out⟩
  | true =>
    go_wp2_with fail
    refine (laws_awakeHeader.calls k r w8 (HR.out trivial)).mono ?_
    rintro e w9 ⟨rfl, hb9⟩
    have HB9 := Aside0.mk (below_step HB8.out hb9)
    clear hb9
    go_wp2_with fail
    go_ret
    exact ⟨rfl, HB9.out⟩
theorem laws_FnHeaderRemove.calls (k : Nat) (A0 : Option Addr) (c0 : Nat) (l0 : List (S37)) (a1 : ByteArray) (r : Bool) (w : World) (hr0 : Kd.C k37 w A0 l0.length l0) (hc0 : l0.length ≤ c0) (h : laws_FnHeaderRemove.f k l0 a1 = some r) :
    Calls Try.prog 4 #[.slice A0 l0.length c0, .string a1] w fun e w' => e = .returned (.bool r) ∧ Below w.heap.size w w' := by
  unfold laws_FnHeaderRemove.f at h
  obtain ⟨z, hz, h⟩ := Option.bind_eq_some_iff.1 h
  by_cases cz : z = false
  · subst cz
    rw [if_pos rfl] at h
    obtain rfl := Option.some.inj h
    exact HR_A k A0 c0 l0 a1 w hr0 hc0 hz
  · rw [if_neg cz] at h
    obtain rfl : z = true := by cases z with | true => rfl | false => exact absurd rfl cz
    by_cases cs : 2147483647 < a1.size
    · rw [if_pos cs] at h
      obtain rfl := Option.some.inj h
      exact HR_B k A0 c0 l0 a1 w hr0 hc0 hz cs
    · rw [if_neg cs] at h
      obtain ⟨hd, hh, h⟩ := Option.bind_eq_some_iff.1 h
      cases hd with
      | false =>
        rw [if_pos rfl] at h
        exact HR_C k A0 c0 l0 a1 w hr0 hc0 hz cs hh r h
      | true =>
        rw [if_neg (by decide)] at h
        obtain ⟨q, hk, h⟩ := Option.bind_eq_some_iff.1 h
        cases q with
        | false =>
          rw [if_pos rfl] at h
          exact HR_D k A0 c0 l0 a1 w hr0 hc0 hz cs hh hk r h
        | true =>
          rw [if_neg (by decide)] at h
          by_cases cl : l0.length = 0
          · rw [if_pos cl] at h
            exact HR_E k A0 c0 l0 a1 w hr0 hc0 hz cs hh hk cl r h
          · rw [if_neg cl] at h
            unfold laws_FnHeaderRemove.g at h
            obtain ⟨t, ht, h⟩ := Option.bind_eq_some_iff.1 h
            obtain ⟨u, hu, h⟩ := Option.bind_eq_some_iff.1 h
            obtain ⟨x, hx, h⟩ := Option.bind_eq_some_iff.1 h
            obtain ⟨y, hy, h⟩ := Option.bind_eq_some_iff.1 h
            refine HR_F k A0 c0 l0 a1 w hr0 hc0 hz cs hh hk cl t ht u hu x hx y hy r (fun e => by rw [if_pos e] at h; exact h) (fun e => ?_)
            rw [e, if_neg (by decide)] at h
            exact (Option.some.inj h).symm
end




end Go.Proofs.Ytmfblbjklmgncaa.PFnHeaderRemove
