-- Written by hprint.py (this session's program, over the kit's printing program, with this session's own contracts in it). Not trusted: Lean checks it.
import Derived.Test.YtjhdnapgdajllaaDoorPFnSetLatticex0
namespace Go.Proofs.YtjhdnapgdajllaaDoor.PFnSetLattice
open Go.RowKit Go.Proofs.YtjhdnapgdajllaaDoorW.PrintWords Go.Proofs.YtjhdnapgdajllaaDoorW.PrintLast Go.Proofs.YtjhdnapgdajllaaDoorW.PrintMore
attribute [local go_sem] max2_int min2_int max_two min_two max_three min_three max_four min_four   -- for this text's walks alone
set_option linter.unusedVariables false
set_option linter.unusedSimpArgs false

/-! ### laws_acts: function 11 -/
def laws_acts.l0 : Nat → List (S34) → Int → Option (Bool)
  | 0, _, _ => none
  | k + 1, x0, x3 => if x3 < (x0.length : Int) then (if 0 ≤ x3 then (if ((rd_T34 x0 x3).f0) < 0 then (some false) else (if ((rd_T34 x0 x3).f0) > 1 then (some false) else (if ((rd_T34 x0 x3).f1) ≥ 18446744073709549568 then (some false) else (laws_acts.l0 k x0 (wrap64 (x3 + 1)))))) else (none)) else (some true)
def laws_acts.f (k : Nat) (l0 : List (S34)) : Option (Bool) := if (l0.length : Int) > 60 then (some false) else (laws_acts.l0 k l0 0)
theorem laws_acts.mono_l : ∀ k, (∀ y0 y1, LeO (laws_acts.l0 k y0 y1) (laws_acts.l0 (k + 1) y0 y1))
  | 0 => fun _ _ r h => by simp [laws_acts.l0] at h
  | k + 1 => by
    have ih0 := laws_acts.mono_l k
    · intro y0 y1
      unfold laws_acts.l0
      repeat' first
      | (with_reducible exact ih0 _ _)
      | (with_reducible exact LeO.refl _)
      | (with_reducible exact LeO.none _)
      | (with_reducible refine LeO.ite ?_ ?_)
      | (with_reducible refine LeO.bind ?_ (fun _ => ?_))
      | exact ih0 _ _
      | exact LeO.none _
      | refine LeO.ite ?_ ?_
      | refine LeO.bind ?_ (fun _ => ?_)
theorem laws_acts.mono : ∀ a0 k, LeO (laws_acts.f k a0) (laws_acts.f (k + 1) a0) := by
  intro a0 k
  have ih0 := laws_acts.mono_l k
  unfold laws_acts.f
  repeat' first
      | (with_reducible exact ih0 _ _)
      | (with_reducible exact LeO.refl _)
      | (with_reducible exact LeO.none _)
      | (with_reducible refine LeO.ite ?_ ?_)
      | (with_reducible refine LeO.bind ?_ (fun _ => ?_))
      | exact ih0 _ _
      | exact LeO.none _
      | refine LeO.ite ?_ ?_
      | refine LeO.bind ?_ (fun _ => ?_)
set_option maxHeartbeats 8000000 in
set_option maxRecDepth 100000 in
theorem laws_acts.calls (k : Nat) (A0 : Option Addr) (c0 : Nat) (l0 : List (S34)) (r : Bool) (w : World) (hr0 : Kd.C k34 w A0 l0.length l0) (hc0 : l0.length ≤ c0) (h : laws_acts.f k l0 = some r) :
    Calls Tryd.prog 11 #[.slice A0 l0.length c0] w fun e w' => e = .returned (.bool r) ∧ Drawn0 w w' := by
  have HR0 := Aside0.mk hr0
  have HC0 := Aside0.mk hc0
  clear hr0 hc0
  have H : (if (l0.length : Int) > 60 then (some false) else (laws_acts.l0 k l0 0)) = some r := h
  clear h
  by_cases c2 : (l0.length : Int) > 60
  · rw [if_pos c2] at H
    have c2b0 : decide (60 < (l0.length : Int)) = true := decide_eq_true c2
    have c2b1 : decide (60 < l0.length) = true := decide_eq_true (by omega)
    clear c2
    obtain rfl := Option.some.inj H
    go_enter Tryd.func11, Tryd.ntmps11
    go_wp2
    go_ret
    exact ⟨by first | rfl | (simp; done) | (simp [*]; done) | (simp; generalize ByteArray.toList _ = l_; cases l_ <;> rfl), by repeat (first | exact Drawn0.refl _ | apply Drawn0.step)⟩
  · rw [if_neg c2] at H
    have c2b0 : decide (60 < (l0.length : Int)) = false := decide_eq_false c2
    have c2b1 : decide (60 < l0.length) = false := decide_eq_false (by omega)
    clear c2
    have H' := Aside0.mk H
    clear H
    go_enter Tryd.func11, Tryd.ntmps11
    go_wp2
    go_loopg [3] k (fun kq v3 w' => ∃ (x3_1 : Int), v3 = .int .i64 x3_1 ∧ Aside0 (laws_acts.l0 kq l0 x3_1 = some r) ∧ Aside0 (kq ≤ k) ∧ Drawn0 w w')
    case atStart => exact ⟨(0), (by first | rfl | (simp; done) | (simp [*]; done)), H', ⟨Nat.le_refl _⟩, by repeat (first | exact Drawn0.refl _ | apply Drawn0.step)⟩
    case round =>
      clear H'
      try clear c1
      try clear c2
      try clear c2b0
      try clear c2b1
      try clear p2
      obtain ⟨x3_1, rfl, HA, HK1, ⟨m1, rfl⟩⟩ := hrel
      cases gk with
      | zero => exact absurd HA.out (by simp [laws_acts.l0])
      | succ k1 =>
        have H := HA.out
        clear HA
        simp only [laws_acts.l0] at H
        by_cases c3 : x3_1 < (l0.length : Int)
        · rw [if_pos c3] at H
          have c3b0 : decide (x3_1 < (l0.length : Int)) = true := decide_eq_true c3
          clear c3
          by_cases c4 : 0 ≤ x3_1
          · rw [if_pos c4] at H
            have c4b0 : decide (0 ≤ x3_1) = true := decide_eq_true c4
            clear c4
            by_cases c5 : ((rd_T34 l0 x3_1).f0) < 0
            · rw [if_pos c5] at H
              have c5b0 : decide (((rd_T34 l0 x3_1).f0) < 0) = true := decide_eq_true c5
              clear c5
              obtain rfl := Option.some.inj H
              have p101 : 0 ≤ (x3_1 : Int) := of_decide_eq_true (by first | (with_reducible assumption) | assumption)
              have q101 : x3_1 < (l0.length : Int) := of_decide_eq_true (by first | (with_reducible assumption) | assumption)
              obtain ⟨ad101, e101, hx101_0, hx101_1⟩ := at_T34 HR0.out x3_1 p101 q101
              cases e101
              replace p101 := eq_true p101
              replace q101 := eq_true q101
              go_wp2
              go_ret
              exact ⟨by first | rfl | (simp; done) | (simp [*]; done) | (simp; generalize ByteArray.toList _ = l_; cases l_ <;> rfl), by repeat (first | exact Drawn0.refl _ | apply Drawn0.step)⟩
            · rw [if_neg c5] at H
              have c5b0 : decide (((rd_T34 l0 x3_1).f0) < 0) = false := decide_eq_false c5
              clear c5
              by_cases c6 : ((rd_T34 l0 x3_1).f0) > 1
              · rw [if_pos c6] at H
                have c6b0 : decide (1 < ((rd_T34 l0 x3_1).f0)) = true := decide_eq_true c6
                clear c6
                obtain rfl := Option.some.inj H
                have p101 : 0 ≤ (x3_1 : Int) := of_decide_eq_true (by first | (with_reducible assumption) | assumption)
                have q101 : x3_1 < (l0.length : Int) := of_decide_eq_true (by first | (with_reducible assumption) | assumption)
                obtain ⟨ad101, e101, hx101_0, hx101_1⟩ := at_T34 HR0.out x3_1 p101 q101
                cases e101
                replace p101 := eq_true p101
                replace q101 := eq_true q101
                have p102 : 0 ≤ (x3_1 : Int) := of_decide_eq_true (by first | (with_reducible assumption) | assumption)
                have q102 : x3_1 < (l0.length : Int) := of_decide_eq_true (by first | (with_reducible assumption) | assumption)
                obtain ⟨ad102, e102, hx102_0, hx102_1⟩ := at_T34 HR0.out x3_1 p102 q102
                obtain rfl : ad101 = ad102 := (by injection e102)
                replace p102 := eq_true p102
                replace q102 := eq_true q102
                go_wp2
                go_ret
                exact ⟨by first | rfl | (simp; done) | (simp [*]; done) | (simp; generalize ByteArray.toList _ = l_; cases l_ <;> rfl), by repeat (first | exact Drawn0.refl _ | apply Drawn0.step)⟩
              · rw [if_neg c6] at H
                have c6b0 : decide (1 < ((rd_T34 l0 x3_1).f0)) = false := decide_eq_false c6
                clear c6
                by_cases c7 : ((rd_T34 l0 x3_1).f1) ≥ 18446744073709549568
                · rw [if_pos c7] at H
                  have c7b0 : decide (18446744073709549568 ≤ ((rd_T34 l0 x3_1).f1)) = true := decide_eq_true c7
                  clear c7
                  obtain rfl := Option.some.inj H
                  have p101 : 0 ≤ (x3_1 : Int) := of_decide_eq_true (by first | (with_reducible assumption) | assumption)
                  have q101 : x3_1 < (l0.length : Int) := of_decide_eq_true (by first | (with_reducible assumption) | assumption)
                  obtain ⟨ad101, e101, hx101_0, hx101_1⟩ := at_T34 HR0.out x3_1 p101 q101
                  cases e101
                  replace p101 := eq_true p101
                  replace q101 := eq_true q101
                  have p102 : 0 ≤ (x3_1 : Int) := of_decide_eq_true (by first | (with_reducible assumption) | assumption)
                  have q102 : x3_1 < (l0.length : Int) := of_decide_eq_true (by first | (with_reducible assumption) | assumption)
                  obtain ⟨ad102, e102, hx102_0, hx102_1⟩ := at_T34 HR0.out x3_1 p102 q102
                  obtain rfl : ad101 = ad102 := (by injection e102)
                  replace p102 := eq_true p102
                  replace q102 := eq_true q102
                  have p103 : 0 ≤ (x3_1 : Int) := of_decide_eq_true (by first | (with_reducible assumption) | assumption)
                  have q103 : x3_1 < (l0.length : Int) := of_decide_eq_true (by first | (with_reducible assumption) | assumption)
                  obtain ⟨ad103, e103, hx103_0, hx103_1⟩ := at_T34 HR0.out x3_1 p103 q103
                  obtain rfl : ad101 = ad103 := (by injection e103)
                  replace p103 := eq_true p103
                  replace q103 := eq_true q103
                  go_wp2
                  go_ret
                  exact ⟨by first | rfl | (simp; done) | (simp [*]; done) | (simp; generalize ByteArray.toList _ = l_; cases l_ <;> rfl), by repeat (first | exact Drawn0.refl _ | apply Drawn0.step)⟩
                · rw [if_neg c7] at H
                  have c7b0 : decide (18446744073709549568 ≤ ((rd_T34 l0 x3_1).f1)) = false := decide_eq_false c7
                  clear c7
                  have H' := Aside0.mk H
                  clear H
                  have p101 : 0 ≤ (x3_1 : Int) := of_decide_eq_true (by first | (with_reducible assumption) | assumption)
                  have q101 : x3_1 < (l0.length : Int) := of_decide_eq_true (by first | (with_reducible assumption) | assumption)
                  obtain ⟨ad101, e101, hx101_0, hx101_1⟩ := at_T34 HR0.out x3_1 p101 q101
                  cases e101
                  replace p101 := eq_true p101
                  replace q101 := eq_true q101
                  have p102 : 0 ≤ (x3_1 : Int) := of_decide_eq_true (by first | (with_reducible assumption) | assumption)
                  have q102 : x3_1 < (l0.length : Int) := of_decide_eq_true (by first | (with_reducible assumption) | assumption)
                  obtain ⟨ad102, e102, hx102_0, hx102_1⟩ := at_T34 HR0.out x3_1 p102 q102
                  obtain rfl : ad101 = ad102 := (by injection e102)
                  replace p102 := eq_true p102
                  replace q102 := eq_true q102
                  have p103 : 0 ≤ (x3_1 : Int) := of_decide_eq_true (by first | (with_reducible assumption) | assumption)
                  have q103 : x3_1 < (l0.length : Int) := of_decide_eq_true (by first | (with_reducible assumption) | assumption)
                  obtain ⟨ad103, e103, hx103_0, hx103_1⟩ := at_T34 HR0.out x3_1 p103 q103
                  obtain rfl : ad101 = ad103 := (by injection e103)
                  replace p103 := eq_true p103
                  replace q103 := eq_true q103
                  go_wp2
                  go_roundg k1
                  case measure => have := HK1.out; omega
                  case rel => exact ⟨(wrap64 (x3_1 + 1)), (by first | rfl | (simp; done) | (simp [*]; done)), H', ⟨by have := HK1.out; omega⟩, by repeat (first | exact Drawn0.refl _ | apply Drawn0.step)⟩
          · rw [if_neg c4] at H
            exact absurd H (by simp)
        · rw [if_neg c3] at H
          have c3b0 : decide (x3_1 < (l0.length : Int)) = false := decide_eq_false c3
          clear c3
          obtain rfl := Option.some.inj H
          go_wp2
          go_ret
          exact ⟨by first | rfl | (simp; done) | (simp [*]; done) | (simp; generalize ByteArray.toList _ = l_; cases l_ <;> rfl), by repeat (first | exact Drawn0.refl _ | apply Drawn0.step)⟩

-- NOT PRINTED: function 69 (avl_node_exists)

-- NOT PRINTED: function 48 (avl_SequenceSet_Exists)

-- NOT PRINTED: function 70 (avl_node_set)

-- NOT PRINTED: function 82 (avl_maxH)

-- NOT PRINTED: function 83 (avl_balanceF)

-- NOT PRINTED: function 84 (avl_node_rotateL)

-- NOT PRINTED: function 85 (avl_node_rotateR)

-- NOT PRINTED: function 71 (avl_node_insert)

-- NOT PRINTED: function 51 (avl_SequenceSet_Insert)

-- NOT PRINTED: function 86 (avl_node_clear)

-- NOT PRINTED: function 87 (avl_node_insertNodePrev)

-- NOT PRINTED: function 72 (avl_node_delete)

-- NOT PRINTED: function 73 (avl_SequenceSet_Empty)

-- NOT PRINTED: function 52 (avl_SequenceSet_Delete)

-- NOT PRINTED: function 36 (impl_change)

-- NOT PRINTED: function 30 (impl_set)

-- NOT PRINTED: function 64 (bits_TrailingZeros64)

-- NOT PRINTED: function 49 (avl_node_iter)

-- NOT PRINTED: function 31 (avl_SequenceSet_Range)

/-! ### impl_SetFirst: function 15 -/
-- WORLD YtjhdnapgdajllaaDoor.SetSpecW.TabLaid
section
open _root_.Go.Proofs.YtjhdnapgdajllaaDoor.SetW _root_.Go.Proofs.YtjhdnapgdajllaaDoor.SetSpecW
def impl_SetFirst.acts (l : List S34) : List (Int × Int) := l.map (fun a => (a.f0, a.f1))
def impl_SetFirst.okB (l : List S34) : Bool := l.all (fun a => (a.f0 == 0 || a.f0 == 1) && (decide (0 ≤ a.f1) && decide (a.f1 < (top64 : Int))))
theorem impl_SetFirst.formed {l : List S34} (h : impl_SetFirst.okB l = true) : Formed (impl_SetFirst.acts l) := by
  intro a ha
  obtain ⟨b, hb, rfl⟩ := List.mem_map.1 ha
  have := List.all_eq_true.1 h b hb
  simp only [Bool.and_eq_true, Bool.or_eq_true, beq_iff_eq, decide_eq_true_eq] at this
  exact ⟨this.1, this.2.1, this.2.2⟩
theorem impl_SetFirst.actsAt {w : World} {A : Option Addr} {l : List S34} (h : Kd.C k34 w A l.length l) : ActsAt w A (impl_SetFirst.acts l) := by
  intro i hi
  rw [impl_SetFirst.acts, List.length_map] at hi
  obtain ⟨ad, e, h1, h2⟩ := at_T34 h (i : Int) (by omega) (by omega)
  have e1 : (impl_SetFirst.acts l).getD i (0, 0) = ((rd_T34 l (i : Int)).f0, (rd_T34 l (i : Int)).f1) := by
    simp [impl_SetFirst.acts, rd_T34, List.getD_eq_getElem?_getD, List.getElem?_map, List.getElem?_eq_getElem hi]
  rw [e1]
  exact ⟨ad, e, h1, h2⟩
def impl_SetFirst.f (l0 : List (S34)) (a1 : Int) : Option (List Int) := if impl_SetFirst.okB l0 = true ∧ l0.length ≤ 9000 ∧ 1 ≤ a1 then some (nI ((actsL [] (impl_SetFirst.acts l0)).take a1.toNat)) else none
theorem impl_SetFirst.calls (A0 : Option Addr) (c0 : Nat) (l0 : List (S34)) (a1 : Int) (r : List Int) (w : World) (hr0 : Kd.C k34 w A0 l0.length l0) (hc0 : l0.length ≤ c0) (h : impl_SetFirst.f l0 a1 = some r) (hE : TabLaid w) :
    Calls Tryd.prog 15 #[.slice A0 l0.length c0, .int .i64 a1] w fun e w' => ∃ v0_ : Value, e = .returned (v0_) ∧ Kd.R (Kd.int .u64) 32 w' w.heap.size (fun _ => True) v0_ r ∧ Below w.heap.size w w' := by
  unfold impl_SetFirst.f at h
  split at h
  · rename_i hc
    obtain rfl := Option.some.inj h
    have := SetFirst_walk A0 c0 (impl_SetFirst.acts l0) a1 w (impl_SetFirst.actsAt hr0) (by rw [impl_SetFirst.acts, List.length_map]; exact hc0) (impl_SetFirst.formed hc.1) (by rw [impl_SetFirst.acts, List.length_map]; exact hc.2.1) hc.2.2 hE.tab
    rw [show (impl_SetFirst.acts l0).length = l0.length from List.length_map _] at this
    exact this
  · cases h
end


/-! ### laws_awakeSet: function 12 -/
def laws_awakeSet.f  : Option (Bool) := (impl_SetFirst.f (([(⟨0, 7⟩ : S34)] : List (S34))) 2).bind fun t107 => (if (t107.length : Int) = 1 then (if 0 < (t107.length : Int) then (some ((rd t107 0) == 7)) else (none)) else (some false))
set_option maxHeartbeats 8000000 in
set_option maxRecDepth 100000 in
theorem laws_awakeSet.calls  (r : Bool) (w : World) (h : laws_awakeSet.f  = some r) (hE_ : Go.Proofs.YtjhdnapgdajllaaDoor.SetSpecW.TabLaid w) :
    Calls Tryd.prog 12 #[] w fun e w' => e = .returned (.bool r) ∧ Below w.heap.size w w' := by
  have HE_ := Aside0.mk hE_
  clear hE_
  have hu34 := Tryd.underlying34
  have HB := Aside0.mk (Below.refl w.heap.size w)
  have H : ((impl_SetFirst.f (([(⟨0, 7⟩ : S34)] : List (S34))) 2).bind fun t107 => (if (t107.length : Int) = 1 then (if 0 < (t107.length : Int) then (some ((rd t107 0) == 7)) else (none)) else (some false))) = some r := h
  clear h
  obtain ⟨y104, hy104⟩ : ∃ y_ : List (S34), y_ = (([(⟨0, 7⟩ : S34)] : List (S34))) := ⟨_, rfl⟩
  replace H : ((impl_SetFirst.f y104 2).bind fun t107 => (if (t107.length : Int) = 1 then (if 0 < (t107.length : Int) then (some ((rd t107 0) == 7)) else (none)) else (some false))) = some r := by first | (rw [hy104]; with_reducible exact H) | (have H2_ := (Option.bind_some _ _).symm.trans H; rw [hy104]; with_reducible exact H2_) | (have H2_ := (Option.bind_some _ _).symm.trans H; with_reducible exact H2_) | with_reducible exact H | (rw [hy104]; exact H) | exact H
  have Ny104 := Aside0.mk hy104
  clear hy104
  replace H := Option.bind_eq_some_iff.mp H
  obtain ⟨t107, A10, H⟩ := H
  replace H : (if (t107.length : Int) = 1 then (if 0 < (t107.length : Int) then (some ((rd t107 0) == 7)) else (none)) else (some false)) = some r := H
  have A1 := Aside0.mk A10
  clear A10
  by_cases c2 : (t107.length : Int) = 1
  · rw [if_pos c2] at H
    have c2b0 : ((t107.length : Int) == 1) = true := beq_iff_eq.mpr c2
    have c2b1 : ((t107.length : Int) != 1) = false := bne_eq_false_iff_eq.mpr c2
    clear c2
    by_cases c3 : 0 < (t107.length : Int)
    · rw [if_pos c3] at H
      have c3b0 : decide (0 < (t107.length : Int)) = true := decide_eq_true c3
      have c3b1 : decide (0 < t107.length) = true := decide_eq_true (by omega)
      clear c3
      obtain rfl := Option.some.inj H
      go_enter Tryd.func12, Tryd.ntmps12
      go_wp2_with (first | ((with_reducible refine gate_dst (N := 3) rfl ?_); refine Kd.R_lit k34 _ 34 ?hg (N := 3) ?hd (xs := ([(⟨0, 7⟩ : S34)] : List (S34))) (inner := [.int .i64 0, .int .u64 7]) (ok := fun _ => True) (okp := fun _ => True) ?hr ?hp (fun _ hk => hk) trivial (Below.refl _ _) (Nat.le_refl _) (by simp) ?_; (case hd => rfl); (case hg => rfl); (case hr => first | (go_simp; done) | (go_simp; rfl)); (case hp => exact (Reps.c2 (show Kd.M k34 _ _ _ (⟨0, 7⟩ : S34) [.int .i64 0, .int .u64 7] from (k34_mkM _ _ _ (⟨0, 7⟩ : S34) )) (Reps.none _ _))); intro v105 w4 ho5 hb hg_ hnew_; clear hg_ hnew_; (first | rw [← Ny104.out] at ho5 | (simp only [Int.reduceToNat] at ho5; rw [← Ny104.out] at ho5)); have n0_ := Aside0.mk (Kd.R_lower ho5 (below_size (by repeat (first | (with_reducible first | exact HB.out | apply below_alloc | apply pw_below_drewN | apply below_drew1) | exact HB.out)))); have n1_ := Aside0.mk (below_step (by repeat (first | (with_reducible first | exact HB.out | apply below_alloc | apply pw_below_drewN | apply below_drew1) | exact HB.out)) hb); clear HB; have HO106 := n0_; have HB := n1_; clear n0_ n1_; clear hb ho5; obtain ⟨Ao6, co6, eo6⟩ := Kd.R_slice HO106.out; subst eo6) | ((with_reducible refine gate_callee (f := 15) rfl ?_); refine goesL_ (some 4) rfl rfl Tryd.func15 (by kernel_rfl) rfl #[.slice Ao6 y104.length co6, .int .i64 2] rfl (by (try simp only [List.map_toArray, List.map_cons, List.map_nil]); first | done | rfl | (simp only [List.length_drop, List.length_take]; rfl)) ?_; (with_reducible refine (impl_SetFirst.calls _ _ y104 2 t107 _ ?side1 ?side2 A1.out (HE_.out.below (by repeat (first | (with_reducible first | exact HB.out | apply below_alloc | apply pw_below_drewN | apply below_drew1) | exact HB.out)))).mono ?_); (case side1 => repeat (first | exact (Kd.R_reads' HO106.out).2.2 | (with_reducible refine Kd.C_alloc ?_ _) | (with_reducible refine Kd.C_drewN ?_ _) | (with_reducible refine Kd.C_drew ?_))); (case side2 => exact (Kd.R_reads' HO106.out).2.1); rintro e w7 ⟨v108, rfl, ho0, hb⟩; refine ⟨_, rfl, ?_⟩; have n0_ := Aside0.mk (Kd.R_below (by (with_reducible repeat (first | apply Kd.R_alloc | apply Kd.R_drewN | apply Kd.R_drew)); exact HO106.out) hb); have n1_ := Aside0.mk (Kd.R_lower ho0 (below_size (by repeat (first | (with_reducible first | exact HB.out | apply below_alloc | apply pw_below_drewN | apply below_drew1) | exact HB.out)))); have n2_ := Aside0.mk (below_step (by repeat (first | (with_reducible first | exact HB.out | apply below_alloc | apply pw_below_drewN | apply below_drew1) | exact HB.out)) hb); clear HO106; clear HB; have HO106 := n0_; have HO109 := n1_; have HB := n2_; clear n0_ n1_ n2_; (try clear hb); (try clear hb2); (try clear hk); (try clear hi); (try clear ho0); obtain ⟨Ao8, co8, eo8⟩ := Kd.R_slice HO109.out; subst eo8; have p110 : 0 ≤ (0 : Int) := (by omega); have q110 : 0 < (t107.length : Int) := of_decide_eq_true (by first | (with_reducible assumption) | assumption); obtain ⟨ad110, e110, hx110_0⟩ := Kd.at_int (Kd.R_reads' HO109.out).2.2 0 p110 q110; cases e110; have qi110 : (0 < t107.length) = True := eq_true (by omega); (try rw [show ((0 : Int)).toNat = 0 from rfl] at hx110_0); (try rw [Addr.add_zero'] at hx110_0); replace p110 := eq_true p110; replace q110 := eq_true q110))
      go_ret
      exact ⟨by first | rfl | (simp [errW_none, errW_some] <;> rfl) | (simp [*, errW_none, errW_some] <;> rfl) | (simp [errW_none, errW_some]; generalize ByteArray.toList _ = l_; cases l_ <;> rfl), by repeat (first | (with_reducible first | exact HB.out | apply below_alloc | apply pw_below_drewN | apply below_drew1) | exact HB.out)⟩
    · rw [if_neg c3] at H
      exact absurd H (by simp)
  · rw [if_neg c2] at H
    have c2b0 : ((t107.length : Int) == 1) = false := beq_eq_false_iff_ne.mpr c2
    have c2b1 : ((t107.length : Int) != 1) = true := bne_iff_ne.mpr c2
    obtain rfl := Option.some.inj H
    go_enter Tryd.func12, Tryd.ntmps12
    go_wp2_with (first | ((with_reducible refine gate_dst (N := 3) rfl ?_); refine Kd.R_lit k34 _ 34 ?hg (N := 3) ?hd (xs := ([(⟨0, 7⟩ : S34)] : List (S34))) (inner := [.int .i64 0, .int .u64 7]) (ok := fun _ => True) (okp := fun _ => True) ?hr ?hp (fun _ hk => hk) trivial (Below.refl _ _) (Nat.le_refl _) (by simp) ?_; (case hd => rfl); (case hg => rfl); (case hr => first | (go_simp; done) | (go_simp; rfl)); (case hp => exact (Reps.c2 (show Kd.M k34 _ _ _ (⟨0, 7⟩ : S34) [.int .i64 0, .int .u64 7] from (k34_mkM _ _ _ (⟨0, 7⟩ : S34) )) (Reps.none _ _))); intro v105 w9 ho10 hb hg_ hnew_; clear hg_ hnew_; (first | rw [← Ny104.out] at ho10 | (simp only [Int.reduceToNat] at ho10; rw [← Ny104.out] at ho10)); have n0_ := Aside0.mk (Kd.R_lower ho10 (below_size (by repeat (first | (with_reducible first | exact HB.out | apply below_alloc | apply pw_below_drewN | apply below_drew1) | exact HB.out)))); have n1_ := Aside0.mk (below_step (by repeat (first | (with_reducible first | exact HB.out | apply below_alloc | apply pw_below_drewN | apply below_drew1) | exact HB.out)) hb); clear HB; have HO106 := n0_; have HB := n1_; clear n0_ n1_; clear hb ho10; obtain ⟨Ao11, co11, eo11⟩ := Kd.R_slice HO106.out; subst eo11) | ((with_reducible refine gate_callee (f := 15) rfl ?_); refine goesL_ (some 4) rfl rfl Tryd.func15 (by kernel_rfl) rfl #[.slice Ao11 y104.length co11, .int .i64 2] rfl (by (try simp only [List.map_toArray, List.map_cons, List.map_nil]); first | done | rfl | (simp only [List.length_drop, List.length_take]; rfl)) ?_; (with_reducible refine (impl_SetFirst.calls _ _ y104 2 t107 _ ?side1 ?side2 A1.out (HE_.out.below (by repeat (first | (with_reducible first | exact HB.out | apply below_alloc | apply pw_below_drewN | apply below_drew1) | exact HB.out)))).mono ?_); (case side1 => repeat (first | exact (Kd.R_reads' HO106.out).2.2 | (with_reducible refine Kd.C_alloc ?_ _) | (with_reducible refine Kd.C_drewN ?_ _) | (with_reducible refine Kd.C_drew ?_))); (case side2 => exact (Kd.R_reads' HO106.out).2.1); rintro e w12 ⟨v108, rfl, ho0, hb⟩; refine ⟨_, rfl, ?_⟩; have n0_ := Aside0.mk (Kd.R_below (by (with_reducible repeat (first | apply Kd.R_alloc | apply Kd.R_drewN | apply Kd.R_drew)); exact HO106.out) hb); have n1_ := Aside0.mk (Kd.R_lower ho0 (below_size (by repeat (first | (with_reducible first | exact HB.out | apply below_alloc | apply pw_below_drewN | apply below_drew1) | exact HB.out)))); have n2_ := Aside0.mk (below_step (by repeat (first | (with_reducible first | exact HB.out | apply below_alloc | apply pw_below_drewN | apply below_drew1) | exact HB.out)) hb); clear HO106; clear HB; have HO106 := n0_; have HO109 := n1_; have HB := n2_; clear n0_ n1_ n2_; (try clear hb); (try clear hb2); (try clear hk); (try clear hi); (try clear ho0); obtain ⟨Ao13, co13, eo13⟩ := Kd.R_slice HO109.out; subst eo13))
    go_ret
    exact ⟨by first | rfl | (simp [errW_none, errW_some] <;> rfl) | (simp [*, errW_none, errW_some] <;> rfl) | (simp [errW_none, errW_some]; generalize ByteArray.toList _ = l_; cases l_ <;> rfl), by repeat (first | (with_reducible first | exact HB.out | apply below_alloc | apply pw_below_drewN | apply below_drew1) | exact HB.out)⟩

/-! ### spec_SameSet: function 14 -/
def spec_SameSet.l0 : Nat → List Int → List Int → Int → Option (Bool)
  | 0, _, _, _ => none
  | k + 1, x0, x1, x5 => if x5 < (x0.length : Int) then (if 0 ≤ x5 then (if x5 < (x1.length : Int) then (if (rd x0 x5) = (rd x1 x5) then (spec_SameSet.l0 k x0 x1 (wrap64 (x5 + 1))) else (some false)) else (none)) else (none)) else (some true)
def spec_SameSet.f (k : Nat) (l0 : List Int) (l1 : List Int) : Option (Bool) := if (l0.length : Int) = (l1.length : Int) then (spec_SameSet.l0 k l0 l1 0) else (some false)
theorem spec_SameSet.mono_l : ∀ k, (∀ y0 y1 y2, LeO (spec_SameSet.l0 k y0 y1 y2) (spec_SameSet.l0 (k + 1) y0 y1 y2))
  | 0 => fun _ _ _ r h => by simp [spec_SameSet.l0] at h
  | k + 1 => by
    have ih0 := spec_SameSet.mono_l k
    · intro y0 y1 y2
      unfold spec_SameSet.l0
      repeat' first
      | (with_reducible exact ih0 _ _ _)
      | (with_reducible exact LeO.refl _)
      | (with_reducible exact LeO.none _)
      | (with_reducible refine LeO.ite ?_ ?_)
      | (with_reducible refine LeO.bind ?_ (fun _ => ?_))
      | exact ih0 _ _ _
      | exact LeO.none _
      | refine LeO.ite ?_ ?_
      | refine LeO.bind ?_ (fun _ => ?_)
theorem spec_SameSet.mono : ∀ a0 a1 k, LeO (spec_SameSet.f k a0 a1) (spec_SameSet.f (k + 1) a0 a1) := by
  intro a0 a1 k
  have ih0 := spec_SameSet.mono_l k
  unfold spec_SameSet.f
  repeat' first
      | (with_reducible exact ih0 _ _ _)
      | (with_reducible exact LeO.refl _)
      | (with_reducible exact LeO.none _)
      | (with_reducible refine LeO.ite ?_ ?_)
      | (with_reducible refine LeO.bind ?_ (fun _ => ?_))
      | exact ih0 _ _ _
      | exact LeO.none _
      | refine LeO.ite ?_ ?_
      | refine LeO.bind ?_ (fun _ => ?_)
set_option maxHeartbeats 8000000 in
set_option maxRecDepth 100000 in
theorem spec_SameSet.calls (k : Nat) (A0 : Option Addr) (c0 : Nat) (l0 : List Int) (A1 : Option Addr) (c1 : Nat) (l1 : List Int) (r : Bool) (w : World) (hr0 : Kd.C (Kd.int .u64) w A0 l0.length l0) (hc0 : l0.length ≤ c0) (hr1 : Kd.C (Kd.int .u64) w A1 l1.length l1) (hc1 : l1.length ≤ c1) (h : spec_SameSet.f k l0 l1 = some r) :
    Calls Tryd.prog 14 #[.slice A0 l0.length c0, .slice A1 l1.length c1] w fun e w' => e = .returned (.bool r) ∧ Drawn0 w w' := by
  have HR0 := Aside0.mk hr0
  have HC0 := Aside0.mk hc0
  clear hr0 hc0
  have HR1 := Aside0.mk hr1
  have HC1 := Aside0.mk hc1
  clear hr1 hc1
  have H : (if (l0.length : Int) = (l1.length : Int) then (spec_SameSet.l0 k l0 l1 0) else (some false)) = some r := h
  clear h
  by_cases c3 : (l0.length : Int) = (l1.length : Int)
  · rw [if_pos c3] at H
    have c3b0 : ((l0.length : Int) == (l1.length : Int)) = true := beq_iff_eq.mpr c3
    have c3b1 : ((l0.length : Int) != (l1.length : Int)) = false := bne_eq_false_iff_eq.mpr c3
    have c3b2 : (l0.length == l1.length) = true := by first | simpa using c3 | (simp at c3 ⊢; omega)
    clear c3
    have H' := Aside0.mk H
    clear H
    go_enter Tryd.func14, Tryd.ntmps14
    go_wp2
    repeat (go_quiet (fail); try go_wp2)
    go_loopg [5] k (fun kq v5 w' => ∃ (x5_1 : Int), v5 = .int .i64 x5_1 ∧ Aside0 (spec_SameSet.l0 kq l0 l1 x5_1 = some r) ∧ Aside0 (kq ≤ k) ∧ Drawn0 w w')
    case atStart => exact ⟨(0), (by first | rfl | (simp; done) | (simp [*]; done)), H', ⟨Nat.le_refl _⟩, by repeat (first | exact Drawn0.refl _ | apply Drawn0.step)⟩
    case round =>
      clear H'
      try clear c1
      try clear p2
      try clear c3
      try clear c3b0
      try clear c3b1
      try clear c3b2
      obtain ⟨x5_1, rfl, HA, HK1, ⟨m1, rfl⟩⟩ := hrel
      cases gk with
      | zero => exact absurd HA.out (by simp [spec_SameSet.l0])
      | succ k1 =>
        have H := HA.out
        clear HA
        simp only [spec_SameSet.l0] at H
        by_cases c4 : x5_1 < (l0.length : Int)
        · rw [if_pos c4] at H
          have c4b0 : decide (x5_1 < (l0.length : Int)) = true := decide_eq_true c4
          clear c4
          by_cases c5 : 0 ≤ x5_1
          · rw [if_pos c5] at H
            have c5b0 : decide (0 ≤ x5_1) = true := decide_eq_true c5
            clear c5
            by_cases c6 : x5_1 < (l1.length : Int)
            · rw [if_pos c6] at H
              have c6b0 : decide (x5_1 < (l1.length : Int)) = true := decide_eq_true c6
              clear c6
              by_cases c7 : (rd l0 x5_1) = (rd l1 x5_1)
              · rw [if_pos c7] at H
                have c7b0 : ((rd l0 x5_1) == (rd l1 x5_1)) = true := beq_iff_eq.mpr c7
                have c7b1 : ((rd l0 x5_1) != (rd l1 x5_1)) = false := bne_eq_false_iff_eq.mpr c7
                clear c7
                have H' := Aside0.mk H
                clear H
                have p111 : 0 ≤ (x5_1 : Int) := of_decide_eq_true (by first | (with_reducible assumption) | assumption)
                have q111 : x5_1 < (l0.length : Int) := of_decide_eq_true (by first | (with_reducible assumption) | assumption)
                obtain ⟨ad111, e111, hx111_0⟩ := Kd.at_int HR0.out x5_1 p111 q111
                cases e111
                replace p111 := eq_true p111
                replace q111 := eq_true q111
                have p112 : 0 ≤ (x5_1 : Int) := of_decide_eq_true (by first | (with_reducible assumption) | assumption)
                have q112 : x5_1 < (l1.length : Int) := of_decide_eq_true (by first | (with_reducible assumption) | assumption)
                obtain ⟨ad112, e112, hx112_0⟩ := Kd.at_int HR1.out x5_1 p112 q112
                cases e112
                replace p112 := eq_true p112
                replace q112 := eq_true q112
                go_wp2
                repeat (go_quiet (fail); try go_wp2)
                go_roundg k1
                case measure => have := HK1.out; omega
                case rel => exact ⟨(wrap64 (x5_1 + 1)), (by first | rfl | (simp; done) | (simp [*]; done)), H', ⟨by have := HK1.out; omega⟩, by repeat (first | exact Drawn0.refl _ | apply Drawn0.step)⟩
              · rw [if_neg c7] at H
                have c7b0 : ((rd l0 x5_1) == (rd l1 x5_1)) = false := beq_eq_false_iff_ne.mpr c7
                have c7b1 : ((rd l0 x5_1) != (rd l1 x5_1)) = true := bne_iff_ne.mpr c7
                obtain rfl := Option.some.inj H
                have p111 : 0 ≤ (x5_1 : Int) := of_decide_eq_true (by first | (with_reducible assumption) | assumption)
                have q111 : x5_1 < (l0.length : Int) := of_decide_eq_true (by first | (with_reducible assumption) | assumption)
                obtain ⟨ad111, e111, hx111_0⟩ := Kd.at_int HR0.out x5_1 p111 q111
                cases e111
                replace p111 := eq_true p111
                replace q111 := eq_true q111
                have p112 : 0 ≤ (x5_1 : Int) := of_decide_eq_true (by first | (with_reducible assumption) | assumption)
                have q112 : x5_1 < (l1.length : Int) := of_decide_eq_true (by first | (with_reducible assumption) | assumption)
                obtain ⟨ad112, e112, hx112_0⟩ := Kd.at_int HR1.out x5_1 p112 q112
                cases e112
                replace p112 := eq_true p112
                replace q112 := eq_true q112
                go_wp2
                repeat (go_quiet (fail); try go_wp2)
                go_ret
                exact ⟨by first | rfl | (simp; done) | (simp [*]; done) | (simp; generalize ByteArray.toList _ = l_; cases l_ <;> rfl), by repeat (first | exact Drawn0.refl _ | apply Drawn0.step)⟩
            · rw [if_neg c6] at H
              exact absurd H (by simp)
          · rw [if_neg c5] at H
            exact absurd H (by simp)
        · rw [if_neg c4] at H
          have c4b0 : decide (x5_1 < (l0.length : Int)) = false := decide_eq_false c4
          clear c4
          obtain rfl := Option.some.inj H
          go_wp2
          repeat (go_quiet (fail); try go_wp2)
          go_ret
          exact ⟨by first | rfl | (simp; done) | (simp [*]; done) | (simp; generalize ByteArray.toList _ = l_; cases l_ <;> rfl), by repeat (first | exact Drawn0.refl _ | apply Drawn0.step)⟩
  · rw [if_neg c3] at H
    have c3b0 : ((l0.length : Int) == (l1.length : Int)) = false := beq_eq_false_iff_ne.mpr c3
    have c3b1 : ((l0.length : Int) != (l1.length : Int)) = true := bne_iff_ne.mpr c3
    have c3b2 : (l0.length == l1.length) = false := by first | simpa using c3 | (simp at c3 ⊢; omega)
    obtain rfl := Option.some.inj H
    go_enter Tryd.func14, Tryd.ntmps14
    go_wp2
    repeat (go_quiet (fail); try go_wp2)
    go_ret
    exact ⟨by first | rfl | (simp; done) | (simp [*]; done) | (simp; generalize ByteArray.toList _ = l_; cases l_ <;> rfl), by repeat (first | exact Drawn0.refl _ | apply Drawn0.step)⟩

/-! ### laws_numbers: function 24 -/
def laws_numbers.f (l0 : List (S34)) : Option (List Int) := (impl_SetFirst.f l0 1000).bind fun t113 => (some t113)
set_option maxHeartbeats 8000000 in
set_option maxRecDepth 100000 in
theorem laws_numbers.calls (A0 : Option Addr) (c0 : Nat) (l0 : List (S34)) (r : List Int) (w : World) (hr0 : Kd.C k34 w A0 l0.length l0) (hc0 : l0.length ≤ c0) (h : laws_numbers.f l0 = some r) (hE_ : Go.Proofs.YtjhdnapgdajllaaDoor.SetSpecW.TabLaid w) :
    Calls Tryd.prog 24 #[.slice A0 l0.length c0] w fun e w' => ∃ v0_ : Value, e = .returned (v0_) ∧ Kd.R (Kd.int .u64) 32 w' w.heap.size (fun _ => True) v0_ r ∧ Below w.heap.size w w' := by
  have HE_ := Aside0.mk hE_
  clear hE_
  have HR0 := Aside0.mk hr0
  have HC0 := Aside0.mk hc0
  clear hr0 hc0
  have HB := Aside0.mk (Below.refl w.heap.size w)
  have H : ((impl_SetFirst.f l0 1000).bind fun t113 => (some t113)) = some r := h
  clear h
  replace H := Option.bind_eq_some_iff.mp H
  obtain ⟨t113, A20, H⟩ := H
  replace H : (some t113) = some r := H
  have A2 := Aside0.mk A20
  clear A20
  obtain rfl := Option.some.inj H
  go_enter Tryd.func24, Tryd.ntmps24
  go_wp2_with (first | ((with_reducible refine gate_callee (f := 15) rfl ?_); refine goesL_ (some 4) rfl rfl Tryd.func15 (by kernel_rfl) rfl #[.slice A0 l0.length c0, .int .i64 1000] rfl (by (try simp only [List.map_toArray, List.map_cons, List.map_nil]); first | done | rfl | (simp only [List.length_drop, List.length_take]; rfl)) ?_; (with_reducible refine (impl_SetFirst.calls _ _ l0 1000 t113 _ ?side1 ?side2 A2.out (HE_.out.below (by repeat (first | (with_reducible first | exact HB.out | apply below_alloc | apply pw_below_drewN | apply below_drew1) | exact HB.out)))).mono ?_); (case side1 => repeat (first | exact HR0.out | (with_reducible refine Kd.C_alloc ?_ _) | (with_reducible refine Kd.C_drewN ?_ _) | (with_reducible refine Kd.C_drew ?_))); (case side2 => exact HC0.out); rintro e w3 ⟨v114, rfl, ho0, hb⟩; refine ⟨_, rfl, ?_⟩; have n0_ := Aside0.mk (Kd.R_lower ho0 (below_size (by repeat (first | (with_reducible first | exact HB.out | apply below_alloc | apply pw_below_drewN | apply below_drew1) | exact HB.out)))); have n1_ := Aside0.mk (below_step (by repeat (first | (with_reducible first | exact HB.out | apply below_alloc | apply pw_below_drewN | apply below_drew1) | exact HB.out)) hb); clear HB; have HO115 := n0_; have HB := n1_; clear n0_ n1_; (try clear hb); (try clear hb2); (try clear hk); (try clear hi); (try clear ho0)))
  go_ret
  exact ⟨_, by first | rfl | (simp [errW_none, errW_some] <;> rfl) | (simp [*, errW_none, errW_some] <;> rfl), by (with_reducible repeat (first | apply Kd.R_alloc | apply Kd.R_drewN | apply Kd.R_drew)); exact HO115.out, by repeat (first | (with_reducible first | exact HB.out | apply below_alloc | apply pw_below_drewN | apply below_drew1) | exact HB.out)⟩

-- NOT PRINTED: function 37 (impl_all)

-- NOT PRINTED: function 59 (avl_node_nodeIter)

-- NOT PRINTED: function 46 (avl_SequenceSet_Union)

-- NOT PRINTED: function 50 (avl_clone)

-- NOT PRINTED: function 35 (avl_SequenceSet_Clone)

-- NOT PRINTED: function 89 (avl_SequenceSet_89)

-- NOT PRINTED: function 98 (avl_SequenceSet_98)

-- NOT PRINTED: function 90 (avl_SequenceSet_90)

-- NOT PRINTED: function 88 (bits_Len64)

-- NOT PRINTED: function 97 (bits_Len32)

-- NOT PRINTED: function 80 (bits_Len)

-- NOT PRINTED: function 99 (slices_nextPowerOfTwo)

-- NOT PRINTED: function 100 (slices_xorshift_Next)

-- NOT PRINTED: function 91 (avl_SequenceSet_91)

-- NOT PRINTED: function 103 (avl_SequenceSet_103)

-- NOT PRINTED: function 102 (avl_SequenceSet_102)

-- NOT PRINTED: function 101 (avl_SequenceSet_101)

-- NOT PRINTED: function 92 (avl_SequenceSet_92)

-- NOT PRINTED: function 93 (avl_SequenceSet_93)

-- NOT PRINTED: function 94 (avl_SequenceSet_94)

-- NOT PRINTED: function 95 (avl_SequenceSet_95)

-- NOT PRINTED: function 96 (avl_SequenceSet_96)

-- NOT PRINTED: function 79 (avl_SequenceSet_79)

-- NOT PRINTED: function 65 (avl_SequenceSet_65)

-- NOT PRINTED: function 47 (avl_Union)

/-! ### impl_SetUnion: function 25 -/
-- WORLD YtjhdnapgdajllaaDoor.SetSpecW.TabLaid
section
open _root_.Go.Proofs.YtjhdnapgdajllaaDoor.SetW _root_.Go.Proofs.YtjhdnapgdajllaaDoor.SetSpecW _root_.Go.Proofs.YtjhdnapgdajllaaDoor.SetUnionV _root_.Go.Proofs.YtjhdnapgdajllaaDoor.SetUnionW
def impl_SetUnion.acts (l : List S34) : List (Int × Int) := l.map (fun a => (a.f0, a.f1))
def impl_SetUnion.okB (l : List S34) : Bool := l.all (fun a => (a.f0 == 0 || a.f0 == 1) && (decide (0 ≤ a.f1) && decide (a.f1 < (top64 : Int))))
theorem impl_SetUnion.formed {l : List S34} (h : impl_SetUnion.okB l = true) : Formed (impl_SetUnion.acts l) := by
  intro a ha
  obtain ⟨b, hb, rfl⟩ := List.mem_map.1 ha
  have := List.all_eq_true.1 h b hb
  simp only [Bool.and_eq_true, Bool.or_eq_true, beq_iff_eq, decide_eq_true_eq] at this
  exact ⟨this.1, this.2.1, this.2.2⟩
theorem impl_SetUnion.actsAt {w : World} {A : Option Addr} {l : List S34} (h : Kd.C k34 w A l.length l) : ActsAt w A (impl_SetUnion.acts l) := by
  intro i hi
  rw [impl_SetUnion.acts, List.length_map] at hi
  obtain ⟨ad, e, h1, h2⟩ := at_T34 h (i : Int) (by omega) (by omega)
  have e1 : (impl_SetUnion.acts l).getD i (0, 0) = ((rd_T34 l (i : Int)).f0, (rd_T34 l (i : Int)).f1) := by
    simp [impl_SetUnion.acts, rd_T34, List.getD_eq_getElem?_getD, List.getElem?_map, List.getElem?_eq_getElem hi]
  rw [e1]
  exact ⟨ad, e, h1, h2⟩
def impl_SetUnion.f (l0 l1 : List (S34)) (a2 : Bool) : Option (List Int) := if impl_SetUnion.okB l0 = true ∧ impl_SetUnion.okB l1 = true ∧ l0.length + l1.length ≤ 8999 then some (nI (unL (actsL [] (impl_SetUnion.acts l0)) (actsL [] (impl_SetUnion.acts l1)))) else none
theorem impl_SetUnion.calls (A0 : Option Addr) (c0 : Nat) (l0 : List (S34)) (A1 : Option Addr) (c1 : Nat) (l1 : List (S34)) (a2 : Bool) (r : List Int) (w : World) (hr0 : Kd.C k34 w A0 l0.length l0) (hc0 : l0.length ≤ c0) (hr1 : Kd.C k34 w A1 l1.length l1) (hc1 : l1.length ≤ c1) (h : impl_SetUnion.f l0 l1 a2 = some r) (hE : TabLaid w) :
    Calls Tryd.prog 25 #[.slice A0 l0.length c0, .slice A1 l1.length c1, .bool a2] w fun e w' => ∃ v0_ : Value, e = .returned (v0_) ∧ Kd.R (Kd.int .u64) 32 w' w.heap.size (fun _ => True) v0_ r ∧ Below w.heap.size w w' := by
  unfold impl_SetUnion.f at h
  split at h
  · rename_i hc
    obtain rfl := Option.some.inj h
    have := SetUnion_walk A0 c0 (impl_SetUnion.acts l0) A1 c1 (impl_SetUnion.acts l1) a2 w (impl_SetUnion.actsAt hr0) (by rw [impl_SetUnion.acts, List.length_map]; exact hc0) (impl_SetUnion.formed hc.1) (impl_SetUnion.actsAt hr1) (by rw [impl_SetUnion.acts, List.length_map]; exact hc1) (impl_SetUnion.formed hc.2.1) (by rw [impl_SetUnion.acts, impl_SetUnion.acts, List.length_map, List.length_map]; exact hc.2.2) hE.tab
    rw [show (impl_SetUnion.acts l0).length = l0.length from List.length_map _, show (impl_SetUnion.acts l1).length = l1.length from List.length_map _] at this
    exact this
  · cases h
end


/-! ### spec_at: function 29 -/
def spec_at.l0 : Nat → List Int → Int → Int → Option (Int × Bool)
  | 0, _, _, _ => none
  | k + 1, x0, x1, x6 => if x6 < (x0.length : Int) then (if 0 ≤ x6 then (if (rd x0 x6) ≥ x1 then (some (x6, ((rd x0 x6) == x1))) else (spec_at.l0 k x0 x1 (wrap64 (x6 + 1)))) else (none)) else (some ((x0.length : Int), false))
def spec_at.f (k : Nat) (l0 : List Int) (a1 : Int) : Option (Int × Bool) := spec_at.l0 k l0 a1 0
theorem spec_at.mono_l : ∀ k, (∀ y0 y1 y2, LeO (spec_at.l0 k y0 y1 y2) (spec_at.l0 (k + 1) y0 y1 y2))
  | 0 => fun _ _ _ r h => by simp [spec_at.l0] at h
  | k + 1 => by
    have ih0 := spec_at.mono_l k
    · intro y0 y1 y2
      unfold spec_at.l0
      repeat' first
      | (with_reducible exact ih0 _ _ _)
      | (with_reducible exact LeO.refl _)
      | (with_reducible exact LeO.none _)
      | (with_reducible refine LeO.ite ?_ ?_)
      | (with_reducible refine LeO.bind ?_ (fun _ => ?_))
      | exact ih0 _ _ _
      | exact LeO.none _
      | refine LeO.ite ?_ ?_
      | refine LeO.bind ?_ (fun _ => ?_)
theorem spec_at.mono : ∀ a0 a1 k, LeO (spec_at.f k a0 a1) (spec_at.f (k + 1) a0 a1) := by
  intro a0 a1 k
  have ih0 := spec_at.mono_l k
  unfold spec_at.f
  repeat' first
      | (with_reducible exact ih0 _ _ _)
      | (with_reducible exact LeO.refl _)
      | (with_reducible exact LeO.none _)
      | (with_reducible refine LeO.ite ?_ ?_)
      | (with_reducible refine LeO.bind ?_ (fun _ => ?_))
      | exact ih0 _ _ _
      | exact LeO.none _
      | refine LeO.ite ?_ ?_
      | refine LeO.bind ?_ (fun _ => ?_)
set_option maxHeartbeats 8000000 in
set_option maxRecDepth 100000 in
theorem spec_at.calls (k : Nat) (A0 : Option Addr) (c0 : Nat) (l0 : List Int) (a1 : Int) (r1 : Int) (r2 : Bool) (w : World) (hr0 : Kd.C (Kd.int .u64) w A0 l0.length l0) (hc0 : l0.length ≤ c0) (h : spec_at.f k l0 a1 = some (r1, r2)) :
    Calls Tryd.prog 29 #[.slice A0 l0.length c0, .int .u64 a1] w fun e w' => e = .returned (.tuple #[.int .i64 r1, .bool r2]) ∧ Drawn0 w w' := by
  have HR0 := Aside0.mk hr0
  have HC0 := Aside0.mk hc0
  clear hr0 hc0
  have H : (spec_at.l0 k l0 a1 0) = some (r1, r2) := h
  clear h
  have H' := Aside0.mk H
  clear H
  go_enter Tryd.func29, Tryd.ntmps29
  go_wp2
  repeat (go_quiet (fail); try go_wp2)
  go_loopg [6] k (fun kq v6 w' => ∃ (x6_1 : Int), v6 = .int .i64 x6_1 ∧ Aside0 (spec_at.l0 kq l0 a1 x6_1 = some (r1, r2)) ∧ Aside0 (kq ≤ k) ∧ Drawn0 w w')
  case atStart => exact ⟨(0), (by first | rfl | (simp; done) | (simp [*]; done)), H', ⟨Nat.le_refl _⟩, by repeat (first | exact Drawn0.refl _ | apply Drawn0.step)⟩
  case round =>
    clear H'
    try clear c2
    try clear p2
    obtain ⟨x6_1, rfl, HA, HK1, ⟨m1, rfl⟩⟩ := hrel
    cases gk with
    | zero => exact absurd HA.out (by simp [spec_at.l0])
    | succ k1 =>
      have H := HA.out
      clear HA
      simp only [spec_at.l0] at H
      by_cases c3 : x6_1 < (l0.length : Int)
      · rw [if_pos c3] at H
        have c3b0 : decide (x6_1 < (l0.length : Int)) = true := decide_eq_true c3
        clear c3
        by_cases c4 : 0 ≤ x6_1
        · rw [if_pos c4] at H
          have c4b0 : decide (0 ≤ x6_1) = true := decide_eq_true c4
          clear c4
          by_cases c5 : (rd l0 x6_1) ≥ a1
          · rw [if_pos c5] at H
            have c5b0 : decide (a1 ≤ (rd l0 x6_1)) = true := decide_eq_true c5
            clear c5
            simp only [Option.some.injEq, Prod.mk.injEq] at H
            obtain ⟨rfl, rfl⟩ := H
            have p116 : 0 ≤ (x6_1 : Int) := of_decide_eq_true (by first | (with_reducible assumption) | assumption)
            have q116 : x6_1 < (l0.length : Int) := of_decide_eq_true (by first | (with_reducible assumption) | assumption)
            obtain ⟨ad116, e116, hx116_0⟩ := Kd.at_int HR0.out x6_1 p116 q116
            cases e116
            replace p116 := eq_true p116
            replace q116 := eq_true q116
            have p117 : 0 ≤ (x6_1 : Int) := of_decide_eq_true (by first | (with_reducible assumption) | assumption)
            have q117 : x6_1 < (l0.length : Int) := of_decide_eq_true (by first | (with_reducible assumption) | assumption)
            obtain ⟨ad117, e117, hx117_0⟩ := Kd.at_int HR0.out x6_1 p117 q117
            obtain rfl : ad116 = ad117 := (by injection e117)
            replace p117 := eq_true p117
            replace q117 := eq_true q117
            go_wp2
            repeat (go_quiet (fail); try go_wp2)
            go_ret2
            exact ⟨by first | rfl | (simp; done) | (simp [*]; done) | (simp; generalize ByteArray.toList _ = l_; cases l_ <;> rfl), by repeat (first | exact Drawn0.refl _ | apply Drawn0.step)⟩
          · rw [if_neg c5] at H
            have c5b0 : decide (a1 ≤ (rd l0 x6_1)) = false := decide_eq_false c5
            clear c5
            have H' := Aside0.mk H
            clear H
            have p116 : 0 ≤ (x6_1 : Int) := of_decide_eq_true (by first | (with_reducible assumption) | assumption)
            have q116 : x6_1 < (l0.length : Int) := of_decide_eq_true (by first | (with_reducible assumption) | assumption)
            obtain ⟨ad116, e116, hx116_0⟩ := Kd.at_int HR0.out x6_1 p116 q116
            cases e116
            replace p116 := eq_true p116
            replace q116 := eq_true q116
            go_wp2
            repeat (go_quiet (fail); try go_wp2)
            go_roundg k1
            case measure => have := HK1.out; omega
            case rel => exact ⟨(wrap64 (x6_1 + 1)), (by first | rfl | (simp; done) | (simp [*]; done)), H', ⟨by have := HK1.out; omega⟩, by repeat (first | exact Drawn0.refl _ | apply Drawn0.step)⟩
        · rw [if_neg c4] at H
          exact absurd H (by simp)
      · rw [if_neg c3] at H
        have c3b0 : decide (x6_1 < (l0.length : Int)) = false := decide_eq_false c3
        clear c3
        simp only [Option.some.injEq, Prod.mk.injEq] at H
        obtain ⟨rfl, rfl⟩ := H
        go_wp2
        repeat (go_quiet (fail); try go_wp2)
        go_ret2
        exact ⟨by first | rfl | (simp; done) | (simp [*]; done) | (simp; generalize ByteArray.toList _ = l_; cases l_ <;> rfl), by repeat (first | exact Drawn0.refl _ | apply Drawn0.step)⟩

/-! ### spec_In: function 27 -/
def spec_In.f (k : Nat) (l0 : List Int) (a1 : Int) : Option (Bool) := (spec_at.f k l0 a1).bind fun bt118 => (some bt118.2)
theorem spec_In.mono : ∀ a0 a1 k, LeO (spec_In.f k a0 a1) (spec_In.f (k + 1) a0 a1) := by
  intro a0 a1 k
  unfold spec_In.f
  repeat' first
      | (with_reducible exact spec_at.mono _ _ _)
      | (with_reducible exact LeO.refl _)
      | (with_reducible exact LeO.none _)
      | (with_reducible refine LeO.ite ?_ ?_)
      | (with_reducible refine LeO.bind ?_ (fun _ => ?_))
      | exact spec_at.mono _ _ _
      | exact LeO.none _
      | refine LeO.ite ?_ ?_
      | refine LeO.bind ?_ (fun _ => ?_)
set_option maxHeartbeats 8000000 in
set_option maxRecDepth 100000 in
theorem spec_In.calls (k : Nat) (A0 : Option Addr) (c0 : Nat) (l0 : List Int) (a1 : Int) (r : Bool) (w : World) (hr0 : Kd.C (Kd.int .u64) w A0 l0.length l0) (hc0 : l0.length ≤ c0) (h : spec_In.f k l0 a1 = some r) :
    Calls Tryd.prog 27 #[.slice A0 l0.length c0, .int .u64 a1] w fun e w' => e = .returned (.bool r) ∧ Drawn0 w w' := by
  have HR0 := Aside0.mk hr0
  have HC0 := Aside0.mk hc0
  clear hr0 hc0
  have H : ((spec_at.f k l0 a1).bind fun bt118 => (some bt118.2)) = some r := h
  clear h
  replace H := Option.bind_eq_some_iff.mp H
  obtain ⟨⟨t118, t119⟩, A30, H⟩ := H
  replace H : (some t119) = some r := H
  have A3 := Aside0.mk A30
  clear A30
  obtain rfl := Option.some.inj H
  go_enter Tryd.func27, Tryd.ntmps27
  go_wp2_with (first | ((with_reducible refine gate_callee (f := 29) rfl ?_); refine goesL_ (some 10) rfl rfl Tryd.func29 (by kernel_rfl) rfl #[.slice A0 l0.length c0, .int .u64 a1] rfl (by (try simp only [List.map_toArray, List.map_cons, List.map_nil]); first | done | rfl | (simp only [List.length_drop, List.length_take]; rfl)) ?_; (with_reducible refine (spec_at.calls k _ _ l0 a1 t118 t119 _ ?side1 ?side2 A3.out).mono ?_); (case side1 => repeat (first | exact HR0.out | (with_reducible refine Kd.C_alloc ?_ _) | (with_reducible refine Kd.C_drewN ?_ _) | (with_reducible refine Kd.C_drew ?_))); (case side2 => exact HC0.out); rintro e w' ⟨rfl, ⟨nd, rfl⟩⟩; refine ⟨_, rfl, ?_⟩))
  go_ret
  exact ⟨by first | rfl | (simp; done) | (simp [*]; done) | (simp; generalize ByteArray.toList _ = l_; cases l_ <;> rfl), by repeat (first | exact Drawn0.refl _ | apply Drawn0.step)⟩

/-! ### impl_SetExists: function 28 -/
section
open _root_.Go.Proofs.YtjhdnapgdajllaaDoor.SetW _root_.Go.Proofs.YtjhdnapgdajllaaDoor.SetSpecW _root_.Go.Proofs.YtjhdnapgdajllaaDoor.SetExistsW
def impl_SetExists.acts (l : List S34) : List (Int × Int) := l.map (fun a => (a.f0, a.f1))
def impl_SetExists.okB (l : List S34) : Bool := l.all (fun a => (a.f0 == 0 || a.f0 == 1) && (decide (0 ≤ a.f1) && decide (a.f1 < (top64 : Int))))
theorem impl_SetExists.formed {l : List S34} (h : impl_SetExists.okB l = true) : Formed (impl_SetExists.acts l) := by
  intro a ha
  obtain ⟨b, hb, rfl⟩ := List.mem_map.1 ha
  have := List.all_eq_true.1 h b hb
  simp only [Bool.and_eq_true, Bool.or_eq_true, beq_iff_eq, decide_eq_true_eq] at this
  exact ⟨this.1, this.2.1, this.2.2⟩
theorem impl_SetExists.actsAt {w : World} {A : Option Addr} {l : List S34} (h : Kd.C k34 w A l.length l) : ActsAt w A (impl_SetExists.acts l) := by
  intro i hi
  rw [impl_SetExists.acts, List.length_map] at hi
  obtain ⟨ad, e, h1, h2⟩ := at_T34 h (i : Int) (by omega) (by omega)
  have e1 : (impl_SetExists.acts l).getD i (0, 0) = ((rd_T34 l (i : Int)).f0, (rd_T34 l (i : Int)).f1) := by
    simp [impl_SetExists.acts, rd_T34, List.getD_eq_getElem?_getD, List.getElem?_map, List.getElem?_eq_getElem hi]
  rw [e1]
  exact ⟨ad, e, h1, h2⟩
def impl_SetExists.f (l0 : List (S34)) (a1 : Int) : Option Bool := if impl_SetExists.okB l0 = true ∧ l0.length ≤ 9000 ∧ 0 ≤ a1 ∧ a1 < (top64 : Int) then some (decide (a1.toNat ∈ actsL [] (impl_SetExists.acts l0))) else none
theorem impl_SetExists.calls (A0 : Option Addr) (c0 : Nat) (l0 : List (S34)) (a1 : Int) (r : Bool) (w : World) (hr0 : Kd.C k34 w A0 l0.length l0) (hc0 : l0.length ≤ c0) (h : impl_SetExists.f l0 a1 = some r) :
    Calls Tryd.prog 28 #[.slice A0 l0.length c0, .int .u64 a1] w fun e w' => e = .returned (.bool r) ∧ Below w.heap.size w w' := by
  unfold impl_SetExists.f at h
  split at h
  · rename_i hc
    obtain rfl := Option.some.inj h
    have hn : ((a1.toNat : Nat) : Int) = a1 := by omega
    have := SetExists_walk A0 c0 (impl_SetExists.acts l0) a1.toNat w (impl_SetExists.actsAt hr0) (by rw [impl_SetExists.acts, List.length_map]; exact hc0) (impl_SetExists.formed hc.1) (by rw [impl_SetExists.acts, List.length_map]; exact hc.2.1) (by have := hc.2.2.2; omega)
    rw [show (impl_SetExists.acts l0).length = l0.length from List.length_map _, hn] at this
    exact this
  · cases h
end


end Go.Proofs.YtjhdnapgdajllaaDoor.PFnSetLattice
